import PyProof.Rows.All
import PyProof.DictItems
import PyProof.Draws
import PyProof.EnumMake
import PyProof.ExcFactsAll.ValueError
import PyProof.ExcAttrAll.ValueError
import PyProof.ExcStrAll.ValueError
import PyProof.ExcStrCall
import PyProof.RulesAs
import PyProof.NsDelKeeps
import PyProof.ZipIter
import PyProof.RulesDelMore
import Flt.RightMore
import Flt.Ops
import ObjForm.Fk.InstStore
import ObjForm.Fk.InstLoad
import Flt.Zero
import OpenK.KMore
import KE.KLam
import KE.KDictSum
import KE.KIntText
import KE.KSortKey
import KE.KPar
import KE.KSortAsk
import KE.KSortTup
import KE.KStrWords
import Wide.FinOn
import OpenK.AllK
import Wide.All
import PySem.Challenge.RW_ta0122_02
open PySem PySem.Calls PyProof.Rows PySem.W
set_option maxRecDepth 100000
set_option maxHeartbeats 8000000
set_option Elab.async false
set_option tactic.hygienic false
set_option genSizeOf false
set_option genInjectivity false
set_option bootstrap.genMatcherCode false
set_option compiler.extract_closed false
set_option linter.all false
namespace Mine
theorem bn : @builtinNamed = @builtinNamed := rfl
name_quick tw10043478200363926408 for builtinNamed by bn
name_quick tw10115462503020374008 for builtinNamed by bn
name_quick tw10119526001420963368 for builtinNamed by bn
name_quick tw10173345803780500505 for builtinNamed by bn
name_quick tw10252351753549200522 for builtinNamed by bn
name_quick tw10278157100988237489 for builtinNamed by bn
name_quick tw10303086167289249056 for builtinNamed by bn
name_quick tw10306842070779127955 for builtinNamed by bn
name_quick tw1031735704648699654 for builtinNamed by bn
name_quick tw10317544620574538617 for builtinNamed by bn
name_quick tw1034514329611564721 for builtinNamed by bn
name_quick tw10449784707429966224 for builtinNamed by bn
name_quick tw10511150838515104366 for builtinNamed by bn
name_quick tw10576436343425651710 for builtinNamed by bn
name_quick tw10596231972127999217 for builtinNamed by bn
name_quick tw10625220075642222124 for builtinNamed by bn
name_quick tw10660960451959428041 for builtinNamed by bn
name_quick tw10690328726066303775 for builtinNamed by bn
name_quick tw10702934664513375045 for builtinNamed by bn
name_quick tw10758302695994565950 for builtinNamed by bn
name_quick tw10805806410913174776 for builtinNamed by bn
name_quick tw10836648790620937178 for builtinNamed by bn
name_quick tw10848447123491528469 for builtinNamed by bn
name_quick tw10871372827834022815 for builtinNamed by bn
name_quick tw10885030165646726131 for builtinNamed by bn
name_quick tw10950307835025577410 for builtinNamed by bn
name_quick tw11011688781528418435 for builtinNamed by bn
name_quick tw11021793164714974322 for builtinNamed by bn
name_quick tw11124667678012591248 for builtinNamed by bn
name_quick tw11169794529773294394 for builtinNamed by bn
name_quick tw11170974163301128645 for builtinNamed by bn
name_quick tw11204798065624763283 for builtinNamed by bn
name_quick tw11243269691978167603 for builtinNamed by bn
name_quick tw11325341341458799435 for builtinNamed by bn
name_quick tw11327709988406055758 for builtinNamed by bn
name_quick tw1135228064233965737 for builtinNamed by bn
name_quick tw11391358465088177954 for builtinNamed by bn
name_quick tw11414075754544372311 for builtinNamed by bn
name_quick tw1141473255510136268 for builtinNamed by bn
name_quick tw11506475954187163712 for builtinNamed by bn
name_quick tw11562513290369531502 for builtinNamed by bn
name_quick tw11566251059027505274 for builtinNamed by bn
name_quick tw11621930436660818541 for builtinNamed by bn
name_quick tw11627772151079983245 for builtinNamed by bn
name_quick tw11627818523460931389 for builtinNamed by bn
name_quick tw11628735343480382026 for builtinNamed by bn
name_quick tw11630181027114683699 for builtinNamed by bn
name_quick tw11742006506144085450 for builtinNamed by bn
name_quick tw11759294603237802419 for builtinNamed by bn
name_quick tw11786576870920169823 for builtinNamed by bn
name_quick tw11826290436047087611 for builtinNamed by bn
name_quick tw11827064963388743088 for builtinNamed by bn
name_quick tw11889801681361095326 for builtinNamed by bn
name_quick tw11926061596591503874 for builtinNamed by bn
name_quick tw11978856602376720645 for builtinNamed by bn
name_quick tw12101725093537066782 for builtinNamed by bn
name_quick tw12112588810389448322 for builtinNamed by bn
name_quick tw12119296516623572355 for builtinNamed by bn
name_quick tw12135401304654681833 for builtinNamed by bn
name_quick tw12137546738671458353 for builtinNamed by bn
name_quick tw12231752573036546456 for builtinNamed by bn
name_quick tw12244611985614454335 for builtinNamed by bn
name_quick tw12347136838962004741 for builtinNamed by bn
name_quick tw1246261204989523632 for builtinNamed by bn
name_quick tw12515725070268963963 for builtinNamed by bn
name_quick tw12566215330745202899 for builtinNamed by bn
name_quick tw12604321683800943448 for builtinNamed by bn
name_quick tw12671021860622227409 for builtinNamed by bn
name_quick tw12868579325914280654 for builtinNamed by bn
name_quick tw12907119390812354878 for builtinNamed by bn
name_quick tw12908825702029163333 for builtinNamed by bn
name_quick tw12920731733321979836 for builtinNamed by bn
name_quick tw13155571336176077747 for builtinNamed by bn
name_quick tw13172207742031559979 for builtinNamed by bn
name_quick tw13177348747399926218 for builtinNamed by bn
name_quick tw13279088844521795670 for builtinNamed by bn
name_quick tw13330412024614740217 for builtinNamed by bn
name_quick tw13345081630551398106 for builtinNamed by bn
name_quick tw13351970447978534596 for builtinNamed by bn
name_quick tw13353614020635065191 for builtinNamed by bn
name_quick tw13445903162420522014 for builtinNamed by bn
name_quick tw13534693362074285355 for builtinNamed by bn
name_quick tw13616185412616974622 for builtinNamed by bn
name_quick tw13664821460521857415 for builtinNamed by bn
name_quick tw1366765225989120830 for builtinNamed by bn
name_quick tw13676827893045575688 for builtinNamed by bn
name_quick tw13739650904924620209 for builtinNamed by bn
name_quick tw13827475985320272047 for builtinNamed by bn
name_quick tw13864924561371027479 for builtinNamed by bn
name_quick tw13876132417968370480 for builtinNamed by bn
name_quick tw13891832151841363526 for builtinNamed by bn
name_quick tw13950132519527995782 for builtinNamed by bn
name_quick tw1398950205398451253 for builtinNamed by bn
name_quick tw13993854857707721557 for builtinNamed by bn
name_quick tw14018413794698812737 for builtinNamed by bn
name_quick tw14144603094289644062 for builtinNamed by bn
name_quick tw1416563797642883735 for builtinNamed by bn
name_quick tw14190884371094482131 for builtinNamed by bn
name_quick tw14220838375795067234 for builtinNamed by bn
name_quick tw14241784397091167067 for builtinNamed by bn
name_quick tw1424914291972401310 for builtinNamed by bn
name_quick tw14249353470493379407 for builtinNamed by bn
name_quick tw14283902417122971744 for builtinNamed by bn
name_quick tw14490394879601900229 for builtinNamed by bn
name_quick tw145271695345169941 for builtinNamed by bn
name_quick tw14738335418829996837 for builtinNamed by bn
name_quick tw14769236491650258088 for builtinNamed by bn
name_quick tw14784383242469296709 for builtinNamed by bn
name_quick tw14928750045470996149 for builtinNamed by bn
name_quick tw1493282534337710743 for builtinNamed by bn
name_quick tw14958051982167532910 for builtinNamed by bn
name_quick tw1497339796037454028 for builtinNamed by bn
name_quick tw14986622198993745850 for builtinNamed by bn
name_quick tw15032915700061327035 for builtinNamed by bn
name_quick tw1519808557454683436 for builtinNamed by bn
name_quick tw15254174197782200307 for builtinNamed by bn
name_quick tw15302408469489471540 for builtinNamed by bn
name_quick tw15342840791422887803 for builtinNamed by bn
name_quick tw15378504999714185795 for builtinNamed by bn
name_quick tw15393831095892752701 for builtinNamed by bn
name_quick tw15405060595506010984 for builtinNamed by bn
name_quick tw15414817861111007753 for builtinNamed by bn
name_quick tw15425977851236003873 for builtinNamed by bn
name_quick tw15443192255092458032 for builtinNamed by bn
name_quick tw15561800496001037299 for builtinNamed by bn
name_quick tw15569673604146123631 for builtinNamed by bn
name_quick tw15625329546744704359 for builtinNamed by bn
name_quick tw15628048035532303663 for builtinNamed by bn
name_quick tw15660471150938158678 for builtinNamed by bn
name_quick tw15701471947573887014 for builtinNamed by bn
name_quick tw15735179245951326617 for builtinNamed by bn
name_quick tw15791227428660783793 for builtinNamed by bn
name_quick tw15795274494380400435 for builtinNamed by bn
name_quick tw15870888802382259168 for builtinNamed by bn
name_quick tw15876080723036132773 for builtinNamed by bn
name_quick tw15937259602592467454 for builtinNamed by bn
name_quick tw16044825145410771529 for builtinNamed by bn
name_quick tw16089245485747424675 for builtinNamed by bn
name_quick tw16092852793139620900 for builtinNamed by bn
name_quick tw16209133342416677120 for builtinNamed by bn
name_quick tw16213739849767280050 for builtinNamed by bn
name_quick tw16271839308332541471 for builtinNamed by bn
name_quick tw16345688628192221411 for builtinNamed by bn
name_quick tw16358954600086915706 for builtinNamed by bn
name_quick tw16363154347188088715 for builtinNamed by bn
name_quick tw16388014160444912985 for builtinNamed by bn
name_quick tw164000899826510058 for builtinNamed by bn
name_quick tw16412835816602760443 for builtinNamed by bn
name_quick tw16428801317311304882 for builtinNamed by bn
name_quick tw16434751121986248173 for builtinNamed by bn
name_quick tw16454358487163086127 for builtinNamed by bn
name_quick tw16518080288125739196 for builtinNamed by bn
name_quick tw16559435598298460729 for builtinNamed by bn
name_quick tw16579451847983471135 for builtinNamed by bn
name_quick tw16603784637528195790 for builtinNamed by bn
name_quick tw16619681983445514394 for builtinNamed by bn
name_quick tw16624542734006568499 for builtinNamed by bn
name_quick tw16641625415728939443 for builtinNamed by bn
name_quick tw16676235493780530990 for builtinNamed by bn
name_quick tw16690994920457973794 for builtinNamed by bn
name_quick tw16900165566512713525 for builtinNamed by bn
name_quick tw16927094433900707755 for builtinNamed by bn
name_quick tw16974547888505515056 for builtinNamed by bn
name_quick tw16977243938972139897 for builtinNamed by bn
name_quick tw17074849489186053436 for builtinNamed by bn
name_quick tw17126306522597070452 for builtinNamed by bn
name_quick tw17139030773250106851 for builtinNamed by bn
name_quick tw17233071037246793416 for builtinNamed by bn
name_quick tw17237970495371685790 for builtinNamed by bn
name_quick tw17265268256285164194 for builtinNamed by bn
name_quick tw17272757030493507227 for builtinNamed by bn
name_quick tw17281274303455347804 for builtinNamed by bn
name_quick tw17339117555139836442 for builtinNamed by bn
name_quick tw17394372530109411507 for builtinNamed by bn
name_quick tw17419364046443635025 for builtinNamed by bn
name_quick tw17434598716581641732 for builtinNamed by bn
name_quick tw1751995617565335120 for builtinNamed by bn
name_quick tw17520726055993932041 for builtinNamed by bn
name_quick tw17538443289769214117 for builtinNamed by bn
name_quick tw1761631350344528513 for builtinNamed by bn
name_quick tw17632199769845544788 for builtinNamed by bn
name_quick tw17643027843020935942 for builtinNamed by bn
name_quick tw17759311399564675553 for builtinNamed by bn
name_quick tw17776566244709487683 for builtinNamed by bn
name_quick tw17806088437043969466 for builtinNamed by bn
name_quick tw17829082509540564238 for builtinNamed by bn
name_quick tw17835665202525869122 for builtinNamed by bn
name_quick tw17856416095428889393 for builtinNamed by bn
name_quick tw17916300462135285270 for builtinNamed by bn
name_quick tw17996677807579764288 for builtinNamed by bn
name_quick tw17998667847993337399 for builtinNamed by bn
name_quick tw18131345572350856376 for builtinNamed by bn
name_quick tw18238617923201680941 for builtinNamed by bn
name_quick tw18281789472261973919 for builtinNamed by bn
name_quick tw1834258978513434572 for builtinNamed by bn
name_quick tw1863190946972016083 for builtinNamed by bn
name_quick tw1865800090540956625 for builtinNamed by bn
name_quick tw1879720399915270809 for builtinNamed by bn
name_quick tw1942539653660856403 for builtinNamed by bn
name_quick tw1955971912079478054 for builtinNamed by bn
name_quick tw196074429405438412 for builtinNamed by bn
name_quick tw1972240899897471954 for builtinNamed by bn
name_quick tw2095155910707850118 for builtinNamed by bn
name_quick tw2150322598155504238 for builtinNamed by bn
name_quick tw2172771728741691560 for builtinNamed by bn
name_quick tw2219472530432635434 for builtinNamed by bn
name_quick tw2328732696769191489 for builtinNamed by bn
name_quick tw2354818275811645857 for builtinNamed by bn
name_quick tw2358792097327236046 for builtinNamed by bn
name_quick tw2581791572218335070 for builtinNamed by bn
name_quick tw2661958666633095591 for builtinNamed by bn
name_quick tw2703389192811067257 for builtinNamed by bn
name_quick tw2752928967620702069 for builtinNamed by bn
name_quick tw2772395579370813471 for builtinNamed by bn
name_quick tw277866969538093432 for builtinNamed by bn
name_quick tw279527262509237523 for builtinNamed by bn
name_quick tw286360821868714156 for builtinNamed by bn
name_quick tw2867164697103929857 for builtinNamed by bn
name_quick tw2884930099079429516 for builtinNamed by bn
name_quick tw2938631913242627446 for builtinNamed by bn
name_quick tw3018113744132850069 for builtinNamed by bn
name_quick tw3018253141370400065 for builtinNamed by bn
name_quick tw3032561156661512834 for builtinNamed by bn
name_quick tw30341240204154802 for builtinNamed by bn
name_quick tw3110802778836019159 for builtinNamed by bn
name_quick tw3177060584204199975 for builtinNamed by bn
name_quick tw3183527343573175548 for builtinNamed by bn
name_quick tw31861014754335509 for builtinNamed by bn
name_quick tw3238048957427110947 for builtinNamed by bn
name_quick tw3261475152299428392 for builtinNamed by bn
name_quick tw3340169416799501051 for builtinNamed by bn
name_quick tw3385101190593834621 for builtinNamed by bn
name_quick tw3440065525127153323 for builtinNamed by bn
name_quick tw3513231163622699595 for builtinNamed by bn
name_quick tw3559266425615387060 for builtinNamed by bn
name_quick tw3608539967392870971 for builtinNamed by bn
name_quick tw3644839404603144962 for builtinNamed by bn
name_quick tw3743427143031876499 for builtinNamed by bn
name_quick tw3765015108826888042 for builtinNamed by bn
name_quick tw3770535431547522802 for builtinNamed by bn
name_quick tw3772961293036620450 for builtinNamed by bn
name_quick tw380720953262230912 for builtinNamed by bn
name_quick tw3859136794218879339 for builtinNamed by bn
name_quick tw385999417434137347 for builtinNamed by bn
name_quick tw3871426703243745780 for builtinNamed by bn
name_quick tw3907589552395697707 for builtinNamed by bn
name_quick tw3932050978867611693 for builtinNamed by bn
name_quick tw3989794557947894603 for builtinNamed by bn
name_quick tw4004944225737170369 for builtinNamed by bn
name_quick tw4047549416905231287 for builtinNamed by bn
name_quick tw4058529047690491734 for builtinNamed by bn
name_quick tw4065235160100269338 for builtinNamed by bn
name_quick tw4091066702347603668 for builtinNamed by bn
name_quick tw4133861059856648946 for builtinNamed by bn
name_quick tw4137580479189080749 for builtinNamed by bn
name_quick tw4161856320698332313 for builtinNamed by bn
name_quick tw4175532816645225367 for builtinNamed by bn
name_quick tw4207717685124971750 for builtinNamed by bn
name_quick tw423964095699956622 for builtinNamed by bn
name_quick tw4251354736657364876 for builtinNamed by bn
name_quick tw4307830847204340640 for builtinNamed by bn
name_quick tw4313462995640359210 for builtinNamed by bn
name_quick tw4316827877210742858 for builtinNamed by bn
name_quick tw4354564693878769211 for builtinNamed by bn
name_quick tw4371475912618387502 for builtinNamed by bn
name_quick tw4389665921034605858 for builtinNamed by bn
name_quick tw4391933857679888152 for builtinNamed by bn
name_quick tw4396038028609801611 for builtinNamed by bn
name_quick tw4452396809166438171 for builtinNamed by bn
name_quick tw4464278331866599987 for builtinNamed by bn
name_quick tw4501742943557353021 for builtinNamed by bn
name_quick tw4516100127238694791 for builtinNamed by bn
name_quick tw4528385573034598128 for builtinNamed by bn
name_quick tw456538963276932414 for builtinNamed by bn
name_quick tw4565931118443547754 for builtinNamed by bn
name_quick tw4718577071918498557 for builtinNamed by bn
name_quick tw4775263964313127669 for builtinNamed by bn
name_quick tw479676639459787783 for builtinNamed by bn
name_quick tw4887641567340924441 for builtinNamed by bn
name_quick tw4902347973300413451 for builtinNamed by bn
name_quick tw4931315232044512429 for builtinNamed by bn
name_quick tw5096828168330135901 for builtinNamed by bn
name_quick tw5118727113939197957 for builtinNamed by bn
name_quick tw5153820735784399354 for builtinNamed by bn
name_quick tw5155909282111413509 for builtinNamed by bn
name_quick tw5209510485674686423 for builtinNamed by bn
name_quick tw529482101727313563 for builtinNamed by bn
name_quick tw5296920355716590827 for builtinNamed by bn
name_quick tw5316935008244480965 for builtinNamed by bn
name_quick tw5329297931702575466 for builtinNamed by bn
name_quick tw537952132186028236 for builtinNamed by bn
name_quick tw5395241770249462527 for builtinNamed by bn
name_quick tw5417199253873590635 for builtinNamed by bn
name_quick tw5432029495240833516 for builtinNamed by bn
name_quick tw5452592906797277729 for builtinNamed by bn
name_quick tw5460026284729952047 for builtinNamed by bn
name_quick tw5492198578099833899 for builtinNamed by bn
name_quick tw5493177378699182861 for builtinNamed by bn
name_quick tw5534230325459454660 for builtinNamed by bn
name_quick tw5550546720108658382 for builtinNamed by bn
name_quick tw5576200020482923995 for builtinNamed by bn
name_quick tw5594469662176513627 for builtinNamed by bn
name_quick tw5650511619662681470 for builtinNamed by bn
name_quick tw5678363444863587212 for builtinNamed by bn
name_quick tw568398274463507649 for builtinNamed by bn
name_quick tw5690520055537156583 for builtinNamed by bn
name_quick tw5701799794727389411 for builtinNamed by bn
name_quick tw5773798235500885188 for builtinNamed by bn
name_quick tw584396329730512384 for builtinNamed by bn
name_quick tw591134637769282366 for builtinNamed by bn
name_quick tw5911437323113702597 for builtinNamed by bn
name_quick tw5971160718581529056 for builtinNamed by bn
name_quick tw6009749743527303825 for builtinNamed by bn
name_quick tw6016845189692202066 for builtinNamed by bn
name_quick tw6071956612168301028 for builtinNamed by bn
name_quick tw6090679819381009309 for builtinNamed by bn
name_quick tw6104466273707714675 for builtinNamed by bn
name_quick tw6162147517387674130 for builtinNamed by bn
name_quick tw6181474087497772594 for builtinNamed by bn
name_quick tw6193577644313254138 for builtinNamed by bn
name_quick tw6199874689259508707 for builtinNamed by bn
name_quick tw6206184616389221718 for builtinNamed by bn
name_quick tw6261114587801098143 for builtinNamed by bn
name_quick tw6266050691945906014 for builtinNamed by bn
name_quick tw6284818478664461334 for builtinNamed by bn
name_quick tw6319054805518318875 for builtinNamed by bn
name_quick tw6324877047485131542 for builtinNamed by bn
name_quick tw6366741795343149870 for builtinNamed by bn
name_quick tw6414338445186298336 for builtinNamed by bn
name_quick tw6416447892396309961 for builtinNamed by bn
name_quick tw6429489648913530579 for builtinNamed by bn
name_quick tw6486000919818195106 for builtinNamed by bn
name_quick tw651663601132939062 for builtinNamed by bn
name_quick tw6629097297009758293 for builtinNamed by bn
name_quick tw6650005085089152061 for builtinNamed by bn
name_quick tw6672278538486591140 for builtinNamed by bn
name_quick tw6701020693884040255 for builtinNamed by bn
name_quick tw6796164499929693450 for builtinNamed by bn
name_quick tw6921823742667525289 for builtinNamed by bn
name_quick tw6970200247254973494 for builtinNamed by bn
name_quick tw7040827724126445222 for builtinNamed by bn
name_quick tw7080478390093313864 for builtinNamed by bn
name_quick tw710503009663494777 for builtinNamed by bn
name_quick tw7134359947524468991 for builtinNamed by bn
name_quick tw7201767397997015187 for builtinNamed by bn
name_quick tw7204471473780870488 for builtinNamed by bn
name_quick tw7280184234890919678 for builtinNamed by bn
name_quick tw7284480221354660228 for builtinNamed by bn
name_quick tw7330650441669706528 for builtinNamed by bn
name_quick tw7389988011711019733 for builtinNamed by bn
name_quick tw7395371353778977980 for builtinNamed by bn
name_quick tw7411088935692425313 for builtinNamed by bn
name_quick tw7510832396835837630 for builtinNamed by bn
name_quick tw7643077990074857054 for builtinNamed by bn
name_quick tw7651593792415096337 for builtinNamed by bn
name_quick tw7708328386481653988 for builtinNamed by bn
name_quick tw7761196075264113013 for builtinNamed by bn
name_quick tw7767250596902437692 for builtinNamed by bn
name_quick tw7859282552119740534 for builtinNamed by bn
name_quick tw7898895485463200488 for builtinNamed by bn
name_quick tw8024039388255380485 for builtinNamed by bn
name_quick tw8039306719147972774 for builtinNamed by bn
name_quick tw8041680266064290461 for builtinNamed by bn
name_quick tw8043176974438660700 for builtinNamed by bn
name_quick tw8063572298462703928 for builtinNamed by bn
name_quick tw8092090843502530619 for builtinNamed by bn
name_quick tw8106989152849902591 for builtinNamed by bn
name_quick tw8113764026731275587 for builtinNamed by bn
name_quick tw8115689826849950388 for builtinNamed by bn
name_quick tw814863551092481505 for builtinNamed by bn
name_quick tw8151741302112683321 for builtinNamed by bn
name_quick tw8174347430983219406 for builtinNamed by bn
name_quick tw8241982726990492508 for builtinNamed by bn
name_quick tw8341803333050852683 for builtinNamed by bn
name_quick tw8399021872296988323 for builtinNamed by bn
name_quick tw8438036513196166740 for builtinNamed by bn
name_quick tw8441584598812737811 for builtinNamed by bn
name_quick tw8456059995789199778 for builtinNamed by bn
name_quick tw849265175119107453 for builtinNamed by bn
name_quick tw8587052664618648643 for builtinNamed by bn
name_quick tw8631956763182284334 for builtinNamed by bn
name_quick tw8798974072756304484 for builtinNamed by bn
name_quick tw8934294166840379960 for builtinNamed by bn
name_quick tw8967767866708783194 for builtinNamed by bn
name_quick tw8984138017962962293 for builtinNamed by bn
name_quick tw9001134696951839392 for builtinNamed by bn
name_quick tw9043527316815355082 for builtinNamed by bn
name_quick tw9070649441188308090 for builtinNamed by bn
name_quick tw908019076598563310 for builtinNamed by bn
name_quick tw9089592727799880831 for builtinNamed by bn
name_quick tw9131671948101331398 for builtinNamed by bn
name_quick tw9147547605912652351 for builtinNamed by bn
name_quick tw9151877989831674297 for builtinNamed by bn
name_quick tw9163090672807787784 for builtinNamed by bn
name_quick tw9229345835722579319 for builtinNamed by bn
name_quick tw9243655686209164425 for builtinNamed by bn
name_quick tw9303307792621567177 for builtinNamed by bn
name_quick tw9382497709093290381 for builtinNamed by bn
name_quick tw9474420922356642130 for builtinNamed by bn
name_quick tw9496612870458829828 for builtinNamed by bn
name_quick tw9505666723258739410 for builtinNamed by bn
name_quick tw9556252211329087762 for builtinNamed by bn
name_quick tw9563099049358905999 for builtinNamed by bn
name_quick tw9597326466940998471 for builtinNamed by bn
name_quick tw9637774101167945404 for builtinNamed by bn
name_quick tw9655685987843268388 for builtinNamed by bn
name_quick tw9657080141882843216 for builtinNamed by bn
name_quick tw968622840268137823 for builtinNamed by bn
name_quick tw9692645190274479804 for builtinNamed by bn
name_quick tw9709208720016088923 for builtinNamed by bn
name_quick tw9709216878629231013 for builtinNamed by bn
name_quick tw9870342162748454732 for builtinNamed by bn
name_quick tw9909529296554819236 for builtinNamed by bn
name_quick tw992298350613431177 for builtinNamed by bn
name_quick tw997094676788641097 for builtinNamed by bn
name_quick tw998184989036854950 for builtinNamed by bn
open_top hd02 for PySem.Challenge.rw_ta0122_02
structure Ct where
 prog : Program
 w : World
 K : Frag
 mg : Str → Option Value
 mb : Str → Option Value
 h₀ : Heap
 X : K.In h₀
 g : h₀.Ns mainGlobals mg
 b : h₀.Ns builtinsNs mb
 nb : NoneBooked h₀
 lim : h₀.NoLimit
 blt : ∀ x : Str, x ≠ "__name__" → mb x = bootBuiltins x
 /-- tokens are drawn already -/
 tp : Prop
noncomputable abbrev Ct.M (C : Ct) : Model := model C.prog C.w
structure Wd where
 ρ : List Addr
 π : List Addr
 s : Shared
noncomputable abbrev Wd.h (w : Wd) : Heap := w.s.heap
noncomputable abbrev lstObj (vs : List Value) (n : Nat) : Obj := { cls := .type "list", data := .seq vs.toArray n }
noncomputable abbrev tupObj (vs : List Value) (n : Nat) : Obj := { cls := .type "tuple", data := .seq vs.toArray n }
structure Step (X : List Addr) (w w' : Wd) : Prop where
 rho : ∃ δ, w'.ρ = w.ρ ++ δ ∧ ∀ a ∈ δ, w.h.get? a = none ∧ a ∉ X
 keep : ∀ a o, w.h.get? a = some o → a ∉ w.ρ → a ∉ X → w'.h.get? a = some o
 live : ∀ a o, w.h.get? a = some o → a ∉ X → ∃ o', w'.h.get? a = some o'
 gens : w'.s.gens = w.s.gens
 os : w'.s.os = w.s.os
 pin : w'.π = w.π
 tk : w.s.toks ≤ w'.s.toks
theorem Step.refl (X : List Addr) (w : Wd) : Step X w w := ⟨⟨[], by simp, by simp⟩, fun q_ q_ e q_ q_ => e, fun q_ q_ e q_ => ⟨_, e⟩, rfl, rfl, rfl, Nat.le_refl _⟩
noncomputable abbrev isSeq (o : Obj) : Prop := ∃ vs n, o.data = .seq vs n
noncomputable def iterCls : List String := ["list_iterator", "tuple_iterator", "range_iterator", "enumerate", "zip", "dict_itemiterator", "dict_keyiterator", "str_iterator", "str_ascii_iterator"]
noncomputable def Soft (o : Obj) : Prop := (∃ v, o.data = .cell v) ∨ (∃ es n, o.data = .dict es n) ∨ (∃ vs T, o.data = .fields vs ∧ o.cls = .type T ∧ T ∈ iterCls)
noncomputable def NonSeq (w : Wd) (X : List Addr) : Prop := ∀ a ∈ X, a ∉ w.π ∧ ∀ o, w.h.get? a = some o → Soft o
structure Low (m : Nat) (w w' : Wd) : Prop where
 s : w'.s = w.s
 at_ : ∀ i, i < m → w'.ρ[i]? = w.ρ[i]?
 sub : ∀ a ∈ w'.ρ, a ∈ w.ρ
 pin : w'.π = w.π
theorem Low.le {m k : Nat} {w w' : Wd} (L : Low m w w') (h : k ≤ m) : Low k w w' := ⟨L.s, fun i q => L.at_ i (Nat.lt_of_lt_of_le q h), L.sub, L.pin⟩
structure Asrt where
 P : Wd → Value → Prop
 mono : ∀ {X w w' v}, NonSeq w X → Step X w w' → P w v → P w' v
 top : Nat
 low : ∀ {w w' v}, Low top w w' → P w v → P w' v
inductive V where
 | none
 | bool (b : Bool)
 | int (i : Int)
 | flt (x : UInt64)
 | str (x : Str)
 | tup (l : List V)
 | lst (l : List V)
 | ref (i : Nat)
 | val (v : Value)
 | sem (P : Asrt)
mutual
noncomputable def V.dat : V → Bool
 | .ref _ => false
 | .sem _ => false
 | .tup l => datL l
 | .lst l => datL l
 | _ => true
noncomputable def datL : List V → Bool
 | [] => true
 | v :: l => v.dat && datL l
end
theorem datL_iff : ∀ {l : List V}, datL l = true ↔ ∀ v ∈ l, v.dat = true
 | [] => by simp [datL]
 | v :: l => by simp [datL, datL_iff (l := l)]
theorem datL_append {a b : List V} : datL (a ++ b) = (datL a && datL b) := by
 induction a with
 | nil => simp [datL]
 | cons v a ih => simp [datL, ih, Bool.and_assoc]
mutual
inductive VRel (w : Wd) : V → Value → Prop
 | none : VRel w .none .none
 | bool (b : Bool) : VRel w (.bool b) (.bool b)
 | int (i : Int) (t : Tok) : VRel w (.int i) (.int i t)
 | flt (x : UInt64) (t : Tok) : t ≠ 0 → VRel w (.flt x) (.float x t)
 | str (x : Str) (t : Tok) : VRel w (.str x) (.str x t)
 | tup {l : List V} {a : Addr} {vs : List Value} {n : Nat} : w.h.get? a = some (tupObj vs n) → a ∉ w.ρ → VRels w l vs → VRel w (.tup l) (.ref a)
 | lst {l : List V} {a : Addr} {vs : List Value} {n : Nat} : w.h.get? a = some (lstObj vs n) → a ∉ w.ρ → VRels w l vs → VRel w (.lst l) (.ref a)
 | ref {i : Nat} {a : Addr} : w.ρ[i]? = some a → VRel w (.ref i) (.ref a)
 | val (v : Value) : VRel w (.val v) v
 | sem {P : Asrt} {v : Value} : P.P w v → VRel w (.sem P) v
inductive VRels (w : Wd) : List V → List Value → Prop
 | nil : VRels w [] []
 | cons {v : V} {x : Value} {l : List V} {xs : List Value} : VRel w v x → VRels w l xs → VRels w (v :: l) (x :: xs)
end
noncomputable def VInv (w : Wd) : V → Value → Prop
 | .none, x => x = .none
 | .bool b, x => x = .bool b
 | .int i, x => ∃ t, x = .int i t
 | .flt u, x => ∃ t, x = .float u t ∧ t ≠ 0
 | .str s, x => ∃ t, x = .str s t
 | .tup l, x => ∃ a vs n, x = .ref a ∧ w.h.get? a = some (tupObj vs n) ∧ a ∉ w.ρ ∧ VRels w l vs
 | .lst l, x => ∃ a vs n, x = .ref a ∧ w.h.get? a = some (lstObj vs n) ∧ a ∉ w.ρ ∧ VRels w l vs
 | .ref i, x => ∃ a, x = .ref a ∧ w.ρ[i]? = some a
 | .val v, x => x = v
 | .sem P, x => P.P w x
theorem VRel.inv {w : Wd} {v : V} {x : Value} (r : VRel w v x) : VInv w v x := by
 cases r with
 | none => rfl
 | bool => rfl
 | int _ t => exact ⟨t, rfl⟩
 | flt _ t h => exact ⟨t, rfl, h⟩
 | str _ t => exact ⟨t, rfl⟩
 | tup h n r => exact ⟨_, _, _, rfl, h, n, r⟩
 | lst h n r => exact ⟨_, _, _, rfl, h, n, r⟩
 | ref h => exact ⟨_, rfl, h⟩
 | val => rfl
 | sem h => exact h
noncomputable def VsInv (w : Wd) : List V → List Value → Prop
 | [], xs => xs = []
 | v :: l, xs => ∃ x ys, xs = x :: ys ∧ VRel w v x ∧ VRels w l ys
theorem VRels.inv {w : Wd} {l : List V} {xs : List Value} (r : VRels w l xs) : VsInv w l xs := by
 cases r with
 | nil => rfl
 | cons a b => exact ⟨_, _, rfl, a, b⟩
theorem getElem?_append_some {α : Type} {l δ : List α} {i : Nat} {a : α} (h : l[i]? = some a) : (l ++ δ)[i]? = some a := by
 rw [List.getElem?_append_left (List.getElem?_eq_some_iff.mp h).1]; exact h
theorem Step.notin {X : List Addr} {w w' : Wd} (S : Step X w w') {a : Addr} {o : Obj} (e : w.h.get? a = some o) (n : a ∉ w.ρ) : a ∉ w'.ρ := by
 obtain ⟨δ, hδ, hn⟩ := S.rho
 rw [hδ]
 intro m
 rcases List.mem_append.mp m with m | m
 ·exact n m
 ·rw [(hn a m).1] at e; cases e
theorem Step.at {X : List Addr} {w w' : Wd} (S : Step X w w') {i : Nat} {a : Addr} (e : w.ρ[i]? = some a) : w'.ρ[i]? = some a := by
 obtain ⟨δ, hδ, _⟩ := S.rho
 rw [hδ]; exact getElem?_append_some e
theorem NonSeq.hard {w : Wd} {X : List Addr} (h : NonSeq w X) {a : Addr} {o : Obj} (e : w.h.get? a = some o) (q : ¬ Soft o) : a ∉ X := fun m => q ((h a m).2 o e)
theorem not_soft_seq {o : Obj} (q : isSeq o) : ¬ Soft o := by
 obtain ⟨vs, n, q⟩ := q
 rintro (⟨v, h⟩ | ⟨es, n, h⟩ | ⟨vs, T, h, _⟩) <;> (exact nomatch q.symm.trans h)
theorem NonSeq.not {w : Wd} {X : List Addr} (h : NonSeq w X) {a : Addr} {o : Obj} (e : w.h.get? a = some o) (q : isSeq o) : a ∉ X := h.hard e (not_soft_seq q)
theorem NonSeq.nil {w : Wd} : NonSeq w [] := fun q_ m => nomatch m
theorem VRel.step {X : List Addr} {w w' : Wd} (hX : NonSeq w X) (S : Step X w w') {v x} (r : VRel w v x) : VRel w' v x :=
 @VRel.rec w (fun v x q_ => VRel w' v x) (fun l xs q_ => VRels w' l xs) .none .bool .int .flt .str
  (fun e n q_ r => .tup (S.keep _ _ e n (hX.not e ⟨_, _, rfl⟩)) (S.notin e n) r) (fun e n q_ r => .lst (S.keep _ _ e n (hX.not e ⟨_, _, rfl⟩)) (S.notin e n) r)
  (fun e => .ref (S.at e)) .val (fun {P _} p => .sem (P.mono hX S p)) .nil (fun q_ q_ a b => .cons a b) v x r
theorem VRels.all {w w' : Wd} {l : List V} : ∀ {xs}, VRels w l xs → (∀ v ∈ l, ∀ x, VRel w v x → VRel w' v x) → VRels w' l xs := by
 induction l with
 | nil => intro xs r _; obtain rfl := r.inv; exact .nil
 | cons v l ih =>
  intro xs r h
  obtain ⟨x, ys, rfl, a, b⟩ := r.inv
  exact .cons (h v (.head _) _ a) (ih b fun u m => h u (.tail _ m))
theorem VRels.step {X : List Addr} {w w' : Wd} (hX : NonSeq w X) (S : Step X w w') {l xs} (r : VRels w l xs) : VRels w' l xs := r.all fun q_ q_ q_ q => q.step hX S
theorem VRel.datG {w w' : Wd} (hg : ∀ {a o}, w.h.get? a = some o → w'.h.get? a = some o) (hn : ∀ {a o}, w.h.get? a = some o → isSeq o → a ∉ w.ρ → a ∉ w'.ρ) {v x} (r : VRel w v x) : v.dat = true → VRel w' v x :=
 @VRel.rec w (fun v x q_ => v.dat = true → VRel w' v x) (fun l xs q_ => datL l = true → VRels w' l xs) (fun q_ => .none) (fun b q_ => .bool b) (fun i t q_ => .int i t) (fun x t h q_ => .flt x t h) (fun x t q_ => .str x t)
  (fun e n q_ r h => .tup (hg e) (hn e ⟨_, _, rfl⟩ n) (r h)) (fun e n q_ r h => .lst (hg e) (hn e ⟨_, _, rfl⟩ n) (r h))
  (fun q_ h => nomatch h) (fun v q_ => .val v) (fun q_ h => nomatch h) (fun q_ => .nil) (fun q_ q_ a b h => .cons (a (Bool.and_eq_true_iff.mp h).1) (b (Bool.and_eq_true_iff.mp h).2)) v x r
theorem VRel.dat {w w' : Wd} (hs : w'.s = w.s) (hr : ∀ a ∈ w'.ρ, a ∈ w.ρ) {v x} (r : VRel w v x) (h : v.dat = true) : VRel w' v x :=
 r.datG (fun e => by show w'.s.heap.get? _ = _; rw [hs]; exact e) (fun q_ q_ n m => n (hr _ m)) h
theorem VRels.dat {w w' : Wd} (hs : w'.s = w.s) (hr : ∀ a ∈ w'.ρ, a ∈ w.ρ) {l vs} (r : VRels w l vs) (h : datL l = true) : VRels w' l vs := r.all fun v m q_ q => q.dat hs hr (datL_iff.mp h v m)
theorem VRel.step0 {w w' : Wd} (S : Step [] w w') {v x} (r : VRel w v x) : VRel w' v x := r.step .nil S
theorem VRels.step0 {w w' : Wd} (S : Step [] w w') {v x} (r : VRels w v x) : VRels w' v x := r.step .nil S
theorem Step.trans {X : List Addr} {a b c : Wd} (x : Step X a b) (y : Step X b c) : Step X a c := by
 obtain ⟨δ, h1, n1⟩ := x.rho
 obtain ⟨δ', h2, n2⟩ := y.rho
 refine ⟨⟨δ ++ δ', by rw [h2, h1, List.append_assoc], fun q m => ?_⟩, fun q o e n m => y.keep q o (x.keep q o e n m) (x.notin e n) m,
  fun q o e m => ?_, y.gens.trans x.gens, y.os.trans x.os, y.pin.trans x.pin, Nat.le_trans x.tk y.tk⟩
 ·rcases List.mem_append.mp m with m | m
  ·exact n1 q m
  ·refine ⟨?_, (n2 q m).2⟩
   cases e : a.h.get? q with
   | none => rfl
   | some o =>
    obtain ⟨o', e'⟩ := x.live q o e (n2 q m).2
    rw [(n2 q m).1] at e'; cases e'
 ·obtain ⟨o', e'⟩ := x.live q o e m
  exact y.live q o' e' m
theorem Step.wide {Y : List Addr} {a b : Wd} (x : Step [] a b) (h : ∀ q ∈ Y, ∃ o, a.h.get? q = some o) : Step Y a b := by
 obtain ⟨δ, h1, n1⟩ := x.rho
 refine ⟨⟨δ, h1, fun q m => ⟨(n1 q m).1, fun z => ?_⟩⟩, fun q o e n q_ => x.keep q o e n (fun z => nomatch z), fun q o e q_ => x.live q o e (fun z => nomatch z), x.gens, x.os, x.pin, x.tk⟩
 obtain ⟨o, ho⟩ := h q z
 rw [(n1 q m).1] at ho; cases ho
structure Ext (w w' : Wd) : Prop where
 rho : w'.ρ = w.ρ
 keep : ∀ a o, w.h.get? a = some o → w'.h.get? a = some o
 gens : w'.s.gens = w.s.gens
 os : w'.s.os = w.s.os
 pin : w'.π = w.π
 tk : w.s.toks ≤ w'.s.toks
theorem Ext.step {X : List Addr} {w w' : Wd} (x : Ext w w') : Step X w w' := ⟨⟨[], by rw [x.rho, List.append_nil], by simp⟩, fun a o e q_ q_ => x.keep a o e, fun a o e q_ => ⟨o, x.keep a o e⟩, x.gens, x.os, x.pin, x.tk⟩
theorem Ext.trans {a b c : Wd} (x : Ext a b) (y : Ext b c) : Ext a c := ⟨y.rho.trans x.rho, fun q o e => y.keep q o (x.keep q o e), y.gens.trans x.gens, y.os.trans x.os, y.pin.trans x.pin, Nat.le_trans x.tk y.tk⟩
theorem Ext.toksT {ρ π : List Addr} {s : Shared} {t : Nat} (h : s.toks ≤ t) : Ext ⟨ρ, π, s⟩ ⟨ρ, π, { s with toks := t }⟩ := ⟨rfl, fun q_ q_ e => e, rfl, rfl, rfl, h⟩
theorem Ext.toks {ρ π : List Addr} {s : Shared} : Ext ⟨ρ, π, s⟩ ⟨ρ, π, { s with toks := s.toks + 1 }⟩ := Ext.toksT (Nat.le_succ _)
theorem Ext.push {ρ π : List Addr} {s : Shared} (o : Obj) : Ext ⟨ρ, π, s⟩ ⟨ρ, π, { s with heap := s.heap.push o }⟩ := ⟨rfl, fun q_ q_ e => Heap.get?_push_of_some o e, rfl, rfl, rfl, Nat.le_refl _⟩
theorem VRel.ext {w w' : Wd} (x : Ext w w') {v y} (r : VRel w v y) : VRel w' v y := r.step0 x.step
theorem VRels.ext {w w' : Wd} (x : Ext w w') {v y} (r : VRels w v y) : VRels w' v y := r.step0 x.step
theorem VRels.length {w : Wd} {l : List V} : ∀ {vs}, VRels w l vs → vs.length = l.length := by
 induction l with
 | nil => intro vs r; obtain rfl := r.inv; rfl
 | cons v l ih => intro vs r; obtain ⟨x, ys, rfl, a, b⟩ := r.inv; exact congrArg (· + 1) (ih b)
theorem VRels.get {w : Wd} {l : List V} : ∀ {vs : List Value}, VRels w l vs → ∀ {i : Nat} {v : V}, l[i]? = some v → ∃ x, vs[i]? = some x ∧ VRel w v x := by
 induction l with
 | nil => intro vs r i v e; cases e
 | cons u l ih =>
  intro vs r i v e
  obtain ⟨x, ys, rfl, a, b⟩ := r.inv
  cases i with
  | zero => cases e; exact ⟨x, rfl, a⟩
  | succ i => exact ih b (i := i) e
theorem VRels.append {w : Wd} {l : List V} : ∀ {vs}, VRels w l vs → ∀ {l' vs'}, VRels w l' vs' → VRels w (l ++ l') (vs ++ vs') := by
 induction l with
 | nil => intro vs r l' vs' r'; obtain rfl := r.inv; exact r'
 | cons v l ih => intro vs r l' vs' r'; obtain ⟨x, ys, rfl, a, b⟩ := r.inv; exact .cons a (ih b r')
theorem VRels.drop {w : Wd} {l : List V} : ∀ {vs}, VRels w l vs → ∀ n, VRels w (l.drop n) (vs.drop n) := by
 induction l with
 | nil => intro vs r n; obtain rfl := r.inv; rw [List.drop_nil, List.drop_nil]; exact .nil
 | cons v l ih =>
  intro vs r n
  cases n with
  | zero => exact r
  | succ n => obtain ⟨x, ys, rfl, a, b⟩ := r.inv; exact ih b n
theorem VRels.take {w : Wd} {l : List V} : ∀ {vs}, VRels w l vs → ∀ n, VRels w (l.take n) (vs.take n) := by
 induction l with
 | nil => intro vs r n; obtain rfl := r.inv; rw [List.take_nil, List.take_nil]; exact .nil
 | cons v l ih =>
  intro vs r n
  obtain ⟨x, ys, rfl, a, b⟩ := r.inv
  cases n with
  | zero => exact .nil
  | succ n => exact .cons a (ih b n)
theorem VRels.inv0 {w : Wd} {xs} (r : VRels w [] xs) : xs = [] := by cases r; rfl
theorem VRels.inv1 {w : Wd} {a xs} (r : VRels w [a] xs) : ∃ x, xs = [x] ∧ VRel w a x := by
 cases r with | cons r s => cases s; exact ⟨_, rfl, r⟩
theorem VRels.inv2 {w : Wd} {a b xs} (r : VRels w [a, b] xs) : ∃ x y, xs = [x, y] ∧ VRel w a x ∧ VRel w b y := by
 cases r with | cons r s => obtain ⟨y, rfl, h⟩ := s.inv1; exact ⟨_, _, rfl, r, h⟩
theorem VRels.inv3 {w : Wd} {a b c xs} (r : VRels w [a, b, c] xs) : ∃ x y z, xs = [x, y, z] ∧ VRel w a x ∧ VRel w b y ∧ VRel w c z := by
 cases r with | cons r s => obtain ⟨y, z, rfl, h⟩ := s.inv2; exact ⟨_, _, _, rfl, r, h⟩
theorem VRels.inv4 {w : Wd} {a b c d xs} (r : VRels w [a, b, c, d] xs) : ∃ x y z u, xs = [x, y, z, u] ∧ VRel w a x ∧ VRel w b y ∧ VRel w c z ∧ VRel w d u := by
 cases r with | cons r s => obtain ⟨y, z, u, rfl, h⟩ := s.inv3; exact ⟨_, _, _, _, rfl, r, h⟩
structure OAsrt where
 P : Wd → Obj → Prop
 mono : ∀ {X w w' o}, NonSeq w X → Step X w w' → P w o → P w' o
 hard : ∀ {w o vs T}, P w o → o.data = .fields vs → o.cls = .type T → T ∉ iterCls
 top : Nat
 low : ∀ {w w' o}, Low top w w' → P w o → P w' o
 loose : ∀ {w o} {π : List Addr}, P w o → P ⟨w.ρ, π, w.s⟩ o
inductive HObj where
 | list (l : List V)
 | sem (P : OAsrt)
inductive ORel (w : Wd) (a : Addr) : HObj → Prop
 | list {l : List V} {vs : List Value} {n : Nat} : w.h.get? a = some (lstObj vs n) → VRels w l vs → datL l = true → ORel w a (.list l)
 | sem {P : OAsrt} {o : Obj} : w.h.get? a = some o → P.P w o → ORel w a (.sem P)
theorem ORel.move {X : List Addr} {w w' : Wd} (hX : NonSeq w X) (S : Step X w w') {a o} (ht : ∀ o, w.h.get? a = some o → w'.h.get? a = some o) : ORel w a o → ORel w' a o
 | .list e r d => .list (ht _ e) (r.step hX S) d
 | .sem (P := P) e r => .sem (ht _ e) (P.mono hX S r)
theorem ORel.ext {w w' : Wd} (x : Ext w w') {a o} (h : ORel w a o) : ORel w' a o := h.move .nil x.step (x.keep a)
theorem ORel.live {w : Wd} {a : Addr} {o : HObj} : ORel w a o → ∃ ob, w.h.get? a = some ob
 | .list e _ _ => ⟨_, e⟩
 | .sem e _ => ⟨_, e⟩
theorem ORel.hard {w : Wd} {a : Addr} {o : HObj} (h : ORel w a o) {ob : Obj} (e : w.h.get? a = some ob) {vs T} (hd : ob.data = .fields vs) (hc : ob.cls = .type T) : T ∉ iterCls := by
 cases h with
 | list e' _ _ => obtain rfl := Option.some.inj (e.symm.trans e'); cases hd
 | sem e' p => obtain rfl := Option.some.inj (e.symm.trans e'); exact OAsrt.hard _ p hd hc
noncomputable def Cl (H : List HObj) : Prop := ∀ (i : Nat) (P : OAsrt), H[i]? = some (HObj.sem P) → P.top ≤ H.length
structure BSt (C : Ct) (w : Wd) (H : List HObj) : Prop where
 stays : C.h₀.StaysIn w.h
 out : ∀ a ∈ w.ρ, C.h₀.get? a = none ∧ a ≠ sysModules
 nodup : w.ρ.Nodup
 len : w.ρ.length = H.length
 obj : ∀ (i : Nat) (a : Addr) (o : HObj), w.ρ[i]? = some a → H[i]? = some o → ORel w a o
 pins : ∀ a ∈ w.π, a ∉ w.ρ ∧ ∃ o, w.h.get? a = some o
 tok : C.tp → 0 < w.s.toks
 tops : Cl H
theorem BSt.ext {C : Ct} {w w' : Wd} {H} (B : BSt C w H) (x : Ext w w') : BSt C w' H :=
 ⟨fun b o e => x.keep b o (B.stays b o e), fun a m => B.out a (x.rho ▸ m), x.rho ▸ B.nodup, x.rho ▸ B.len, fun i a o e1 e2 => (B.obj i a o (x.rho ▸ e1) e2).ext x,
 fun a m => let ⟨h, o, e⟩ := B.pins a (x.pin ▸ m); ⟨x.rho ▸ h, o, x.keep a o e⟩, fun h => Nat.lt_of_lt_of_le (B.tok h) x.tk, B.tops⟩
theorem BSt.size3 {C : Ct} {w : Wd} {H : List HObj} (B : BSt C w H) : 3 < w.s.heap.objs.size := by
 obtain ⟨o, _, _, e, _⟩ := C.g
 exact Heap.lt_size (B.stays _ o e)
theorem BSt.X {C : Ct} {w : Wd} {H} (B : BSt C w H) : C.K.In w.h := C.X.keeps B.stays
theorem BSt.get {C : Ct} {w : Wd} {H} (B : BSt C w H) {i : Nat} {l : List V} (e : H[i]? = some (.list l)) : ∃ a vs n, w.ρ[i]? = some a ∧ w.h.get? a = some (lstObj vs n) ∧ VRels w l vs ∧ datL l = true := by
 have hl : i < w.ρ.length := by rw [B.len]; exact (List.getElem?_eq_some_iff.mp e).1
 have ha : w.ρ[i]? = some w.ρ[i] := List.getElem?_eq_getElem hl
 cases B.obj i _ _ ha e with
 | list e' r d => exact ⟨_, _, _, ha, e', r, d⟩
noncomputable abbrev fr (env : Env) : List Addr := env.locals :: env.cells.map (·.2)
noncomputable abbrev fw (env : Env) : List Addr := env.locals :: (env.cells.filter fun p => env.kindOf p.1 == some .cell).map (·.2)
theorem fw_fr {env : Env} {a : Addr} (h : a ∈ fw env) : a ∈ fr env := by
 rcases List.mem_cons.mp h with rfl | h
 ·exact .head _
 ·obtain ⟨p, hp, rfl⟩ := List.mem_map.mp h
  exact .tail _ (List.mem_map_of_mem (f := (·.2)) (List.mem_filter.mp hp).1)
noncomputable abbrev Loc := List (Str × V)
noncomputable def Slot (w : Wd) (env : Env) (m : Str → Option Value) (x : Str) (y : Value) : Prop :=
 (env.kindOf x = some .local ∧ m x = some y) ∨ ((env.kindOf x = some .cell ∨ env.kindOf x = some .free) ∧ ∃ c, env.cells.lookup x = some c ∧ w.h.IsCell c (some y))
structure FSt (C : Ct) (w : Wd) (env : Env) (σ : Loc) : Prop where
 own : ∀ a ∈ fr env, C.h₀.get? a = none
 glob : env.globals = mainGlobals
 bltn : env.builtins = builtinsNs
 kind : env.scope.kind = .function
 ns : ∃ m, w.h.Ns env.locals m ∧ ∀ x v, σ.lookup x = some v → ∃ y, Slot w env m x y ∧ VRel w v y
 out : env.locals ∉ w.ρ
 cells : ∀ p ∈ env.cells, p.2 ∉ w.ρ ∧ ∃ v₀, w.h.IsCell p.2 v₀
 nodup : (env.cells.map (·.2)).Nodup
 full : ∀ x, env.kindOf x = some .cell → ∃ c, env.cells.lookup x = some c
 pin : ∀ a ∈ fw env, a ∉ w.π
theorem mem_of_lookup {α : Type} {x : Str} {c : α} {l : List (Str × α)} (e : l.lookup x = some c) : (x, c) ∈ l := by
 induction l with
 | nil => cases e
 | cons p l ih =>
  obtain ⟨y, d⟩ := p
  cases q : x == y with
  | true => rw [List.lookup_cons, q] at e; obtain rfl := Option.some.inj e; rw [beq_iff_eq.mp q]; exact .head _
  | false => rw [List.lookup_cons, q] at e; exact .tail _ (ih e)
theorem Slot.step {X : List Addr} {w w' : Wd} {env : Env} {m x y} (S : Step X w w') (hX : ∀ a ∈ fr env, a ∉ X) (hc : ∀ p ∈ env.cells, p.2 ∉ w.ρ) (h : Slot w env m x y) : Slot w' env m x y := by
 rcases h with h | ⟨h, c, e, o, ho, hd⟩
 ·exact .inl h
 ·have hm : (x, c) ∈ env.cells := mem_of_lookup e
  exact .inr ⟨h, c, e, o, S.keep c o ho (hc _ hm) (hX c (.tail _ (List.mem_map_of_mem (f := (·.2)) hm))), hd⟩
theorem FSt.step {C : Ct} {X : List Addr} {w w' : Wd} {env : Env} {σ} (F : FSt C w env σ) (hX : NonSeq w X) (hf : ∀ a ∈ fr env, a ∉ X) (S : Step X w w') : FSt C w' env σ := by
 obtain ⟨m, ⟨o, es, ep, ho, r⟩, hm⟩ := F.ns
 refine ⟨F.own, F.glob, F.bltn, F.kind, ⟨m, ⟨o, es, ep, S.keep _ o ho F.out (hf _ (.head _)), r⟩, fun x v e => ?_⟩, S.notin ho F.out, fun p hp => ?_, F.nodup, F.full, S.pin ▸ F.pin⟩
 ·obtain ⟨y, h1, h2⟩ := hm x v e
  exact ⟨y, h1.step S hf fun p hp => (F.cells p hp).1, h2.step hX S⟩
 ·obtain ⟨n, v₀, o, ho, hd⟩ := F.cells p hp
  exact ⟨S.notin ho n, v₀, o, S.keep _ o ho n (hf _ (.tail _ (List.mem_map_of_mem (f := (·.2)) hp))), hd⟩
theorem FSt.step0 {C : Ct} {w w' : Wd} {env : Env} {σ} (F : FSt C w env σ) (S : Step [] w w') : FSt C w' env σ := F.step .nil (fun q_ q_ m => nomatch m) S
theorem FSt.ext {C : Ct} {w w' : Wd} {env : Env} {σ} (F : FSt C w env σ) (S : Ext w w') : FSt C w' env σ := F.step0 S.step
theorem FSt.nonSeq {C : Ct} {w : Wd} {env : Env} {σ} (F : FSt C w env σ) : NonSeq w (fw env) := by
 intro a m
 refine ⟨F.pin a m, fun o ho => ?_⟩
 replace m := fw_fr m
 rcases List.mem_cons.mp m with rfl | m
 ·obtain ⟨_, ⟨o', es, ep, ho', hd, _⟩, _⟩ := F.ns
  obtain rfl := Option.some.inj (ho.symm.trans ho'); exact .inr (.inl ⟨_, _, hd⟩)
 ·obtain ⟨p, hp, rfl⟩ := List.mem_map.mp m
  obtain ⟨_, v₀, o', ho', hd⟩ := F.cells p hp
  obtain rfl := Option.some.inj (ho.symm.trans ho'); exact .inl ⟨_, hd⟩
theorem FSt.weak {C : Ct} {w : Wd} {env : Env} {σ σ' : Loc} (F : FSt C w env σ) (h : ∀ x v, σ'.lookup x = some v → σ.lookup x = some v) : FSt C w env σ' := by
 obtain ⟨m, hn, hm⟩ := F.ns
 exact ⟨F.own, F.glob, F.bltn, F.kind, ⟨m, hn, fun x v e => hm x v (h x v e)⟩, F.out, F.cells, F.nodup, F.full, F.pin⟩
theorem FSt.alive {C : Ct} {w : Wd} {env : Env} {σ} (F : FSt C w env σ) : ∀ q ∈ fr env, ∃ o, w.h.get? q = some o := by
 intro a m
 rcases List.mem_cons.mp m with rfl | m
 ·obtain ⟨_, ⟨o', es, ep, ho', hd, _⟩, _⟩ := F.ns
  exact ⟨o', ho'⟩
 ·obtain ⟨p, hp, rfl⟩ := List.mem_map.mp m
  obtain ⟨_, v₀, o', ho', hd⟩ := F.cells p hp
  exact ⟨o', ho'⟩
theorem FSt.wide {C : Ct} {w w' : Wd} {env : Env} {σ} (F : FSt C w env σ) (S : Step [] w w') : Step (fw env) w w' := S.wide fun q m => F.alive q (fw_fr m)
structure Room (A : Around) (n : Nat) : Prop where
 hd : A.handled = none
 depth : A.depth + n ≤ 900
 units : A.units + 20 * n ≤ 9000
theorem Room.le {A : Around} {n m : Nat} (R : Room A n) (h : m ≤ n) : Room A m := ⟨R.hd, by have := R.depth; lia, by have := R.units; lia⟩
theorem Room.in1 {A : Around} {n : Nat} (R : Room A (n + 1)) : Room A.in1 n := ⟨R.hd, by have := R.depth; show A.depth + n ≤ 900; exact Nat.le_of_lt (by assumption), by have := R.units; show A.units + 1 + 20 * n ≤ 9000; lia⟩
theorem Room.deeper {A : Around} {n : Nat} {env : Env} (R : Room A (n + 1)) : Room (A.deeper env) n :=
 ⟨R.hd, by have := R.depth; show A.depth + 1 + n ≤ 900; lia, by have := R.units; show A.units + 3 + 20 * n ≤ 9000; lia⟩
theorem Room.lim {A : Around} {n : Nat} (R : Room A n) : A.depth < recursionLimit := by have := R.depth; show A.depth < 1000; lia
theorem Room.room {A : Around} {n : Nat} (R : Room A n) : A.units < cLine := by have := R.units; show A.units < 9900; lia
theorem Room.mark {A : Around} {n : Nat} (R : Room A n) : Room (A.mark none) n := ⟨R.hd, R.depth, R.units⟩
noncomputable def Ev (C : Ct) (n : Nat) (env : Env) (σ : Loc) (H : List HObj) (e : PySem.Expr) (H' : List HObj) (v : V) : Prop :=
 ∀ (A : Around) (w : Wd) (Q E : Value → Shared → Prop), Room A n → BSt C w H → FSt C w env σ →
  (∀ w' y, Step [] w w' → BSt C w' H' → FSt C w' env σ → VRel w' v y → Q y w'.s) → wpAny C.M A (eval e env) (fun v s => Q v s) E w.s
noncomputable def Fn (C : Ct) (n : Nat) (f : V) (args : List V) (kw : List (Str × V)) (H H' : List HObj) (v : V) : Prop :=
 ∀ (A : Around) (w : Wd) (Q E : Value → Shared → Prop) (g : Value) (xs : List Value) (ks : List Value), Room A n → BSt C w H → VRel w f g → VRels w args xs → VRels w (kw.map (·.2)) ks →
  (∀ w' y, Step [] w w' → BSt C w' H' → VRel w' v y → Q y w'.s) → wpAny C.M A (call g xs ((kw.map (·.1)).zip ks)) (fun v s => Q v s) E w.s
noncomputable def EvL (C : Ct) (n : Nat) (env : Env) (σ : Loc) (H : List HObj) (pos : Pos) (es : List PySem.Expr) (H' : List HObj) (vs : List V) : Prop :=
 ∀ (A : Around) (w : Wd) (Q : List Value → Shared → Prop) (E : Value → Shared → Prop), Room A n → BSt C w H → FSt C w env σ →
  (∀ w' ys, Step [] w w' → BSt C w' H' → FSt C w' env σ → VRels w' vs ys → Q ys w'.s) → wpAny C.M A (spliced (backTo pos (starEach es env))) Q E w.s
noncomputable def Tst (C : Ct) (n : Nat) (env : Env) (σ : Loc) (H : List HObj) (e : PySem.Expr) (H' : List HObj) (b : Bool) : Prop :=
 ∀ (A : Around) (w : Wd) (Q : Bool → Shared → Prop) (E : Value → Shared → Prop), Room A n → BSt C w H → FSt C w env σ →
  (∀ w', Step [] w w' → BSt C w' H' → FSt C w' env σ → Q b w'.s) → wpAny C.M A (isTrue e env (eval e env)) Q E w.s
inductive Out where
 | next (σ : Loc) (H : List HObj)
 | ret (v : V) (H : List HObj)
 | brk (σ : Loc) (H : List HObj)
 | cont (σ : Loc) (H : List HObj)
inductive ORes (C : Ct) (env : Env) (w : Wd) : Out → Flow → Prop
 | next {σ H} : BSt C w H → FSt C w env σ → ORes C env w (.next σ H) .next
 | ret {v H y} : BSt C w H → VRel w v y → ORes C env w (.ret v H) (.ret y)
 | brk {σ H} : BSt C w H → FSt C w env σ → ORes C env w (.brk σ H) .brk
 | cont {σ H} : BSt C w H → FSt C w env σ → ORes C env w (.cont σ H) .cont
noncomputable def OInv (C : Ct) (env : Env) (w : Wd) : Out → Flow → Prop
 | .next σ H, f => f = .next ∧ BSt C w H ∧ FSt C w env σ
 | .ret v H, f => ∃ y, f = .ret y ∧ BSt C w H ∧ VRel w v y
 | .brk σ H, f => f = .brk ∧ BSt C w H ∧ FSt C w env σ
 | .cont σ H, f => f = .cont ∧ BSt C w H ∧ FSt C w env σ
theorem ORes.inv {C : Ct} {env : Env} {w : Wd} {o : Out} {f : Flow} (h : ORes C env w o f) : OInv C env w o f := by
 cases h with
 | next a b => exact ⟨rfl, a, b⟩
 | ret a b => exact ⟨_, rfl, a, b⟩
 | brk a b => exact ⟨rfl, a, b⟩
 | cont a b => exact ⟨rfl, a, b⟩
noncomputable def Ex (C : Ct) (n : Nat) (env : Env) (σ : Loc) (H : List HObj) (ss : List PySem.Stmt) (o : Out) : Prop :=
 ∀ (A : Around) (w : Wd) (Q : Flow → Shared → Prop) (E : Value → Shared → Prop), Room A n → BSt C w H → FSt C w env σ →
  (∀ w' f, Step (fw env) w w' → ORes C env w' o f → Q f w'.s) → wpAny C.M A (execs ss env) Q E w.s
noncomputable def ExA (C : Ct) (n : Nat) (A : Around) (env : Env) (σ : Loc) (H : List HObj) (ss : List PySem.Stmt) (o : Out) : Prop :=
 ∀ (w : Wd) (Q : Flow → Shared → Prop) (E : Value → Shared → Prop), Room A n → BSt C w H → FSt C w env σ →
  (∀ w' f, Step (fw env) w w' → ORes C env w' o f → Q f w'.s) → wpAny C.M A (execs ss env) Q E w.s
noncomputable def EsA (C : Ct) (n : Nat) (A : Around) (env : Env) (σ : Loc) (H : List HObj) (st : PySem.Stmt) (o : Out) : Prop :=
 ∀ (w : Wd) (Q : Flow → Shared → Prop) (E : Value → Shared → Prop), Room A n → BSt C w H → FSt C w env σ →
  (∀ w' f, Step (fw env) w w' → ORes C env w' o f → Q f w'.s) → wpAny C.M A (exec st env) Q E w.s
theorem Ex.at {C : Ct} {n : Nat} {A : Around} {env : Env} {σ : Loc} {H : List HObj} {ss : List PySem.Stmt} {o : Out} (h : Ex C n env σ H ss o) : ExA C n A env σ H ss o := h A
section
section
variable {C : Ct} {n : Nat} {env : Env} {σ : Loc} {H H' H0 H1 H2 H3 : List HObj} {pos p : Pos} {k : Nat} {x : Str} {v v1 v2 v3 : V} {e e1 e2 e3 : PySem.Expr}
theorem Ev.int {i : Int} : Ev C n env σ H (.Constant (.int i) k pos) H (.int i) := fun q_ w q_ q_ q_ B F K => wpAny_Constant_int (K ⟨w.ρ, w.π, _⟩ _ Ext.toks.step (B.ext Ext.toks) (F.ext Ext.toks) (.int _ _))
theorem Ev.str {i : Str} : Ev C n env σ H (.Constant (.str i) k pos) H (.str i) := fun q_ w q_ q_ q_ B F K => wpAny_Constant_str (K ⟨w.ρ, w.π, _⟩ _ Ext.toks.step (B.ext Ext.toks) (F.ext Ext.toks) (.str _ _))
theorem Ev.flt {i : UInt64} (ht : C.tp := by trivial) : Ev C n env σ H (.Constant (.float i) k pos) H (.flt i) := fun q_ w q_ q_ q_ B F K => wpAny_Constant_float (K ⟨w.ρ, w.π, _⟩ _ Ext.toks.step (B.ext Ext.toks) (F.ext Ext.toks) (.flt _ _ (Nat.ne_of_gt (B.tok ht))))
theorem Ev.bool {b : Bool} : Ev C n env σ H (.Constant (.bool b) k pos) H (.bool b) := fun q_ w q_ q_ q_ B F K => wpAny_Constant_bool (K w _ (Step.refl _ _) B F (.bool _))
theorem Ev.none : Ev C n env σ H (.Constant .none k pos) H .none := fun q_ w q_ q_ q_ B F K => wpAny_Constant_none (K w _ (Step.refl _ _) B F .none)
noncomputable def plainN (x : Str) : Bool := !(x == ("__debug__" : Str)) && !(x == ("__classdict__" : Str))
theorem plainN_of {x : Str} (h : plainN x = true) : (x == ("__debug__" : Str)) = false ∧ (x == ("__classdict__" : Str)) = false :=
 have h := Bool.and_eq_true_iff.mp h
 ⟨by simpa using h.1, by simpa using h.2⟩
theorem Ev.loc (h : σ.lookup x = some v) (hd : plainN x = true := by decide) : Ev C n env σ H (.Name x pos) H v := by
 have hc := (plainN_of hd).2
 have hd := (plainN_of hd).1
 intro A w Q E R B F K
 obtain ⟨m, hn, hm⟩ := F.ns
 obtain ⟨y, hs, hv⟩ := hm x v h
 have q := K w _ (Step.refl _ _) B F hv
 refine wpAny_Name ?_ hd
 rcases hs with ⟨a, b⟩ | ⟨a | a, c, e, hcell⟩
 ·exact wpAny_loadName_local F.kind a hn b q
 ·exact wpAny_loadName_cell F.kind a e hcell q
 ·exact wpAny_loadName_free F.kind a e hcell q hc
theorem Ev.glob {y : Value} (h : nsIn C.K mainGlobals x = some (some y)) (hv : ∀ w, VRel w v y) (hx : env.kindOf x = some .globalImplicit) (hd : (x == ("__debug__" : Str)) = false) : Ev C n env σ H (.Name x pos) H v := by
 intro A w Q E R B F K
 refine Name_function_global F.kind hx (loadGlobal_global (mg := C.mg) ?_ (mg_of C.X C.g h) (K w _ (Step.refl _ _) B F (hv _))) hd
 rw [F.glob]; exact C.g.keeps B.stays
theorem Ev.globV {y : Value} (h : nsIn C.K mainGlobals x = some (some y)) (hx : env.kindOf x = some .globalImplicit) (hd : (x == ("__debug__" : Str)) = false) : Ev C n env σ H (.Name x pos) H (.val y) := Ev.glob h (fun q_ => .val _) hx hd
theorem Ev.blt {y : Value} (h : nsIn C.K mainGlobals x = some Option.none) (hb : bootBuiltins x = some y) (hn : x ≠ "__name__") (hx : env.kindOf x = some .globalImplicit) (hd : (x == ("__debug__" : Str)) = false) : Ev C n env σ H (.Name x pos) H (.val y) := by
 intro A w Q E R B F K
 refine Name_function_global F.kind hx (loadGlobal_builtin (mg := C.mg) (mb := C.mb) ?_ (mg_none_of C.X C.g h) ?_ ((C.blt x hn).trans hb) (K w _ (Step.refl _ _) B F (.val _))) hd
 ·rw [F.glob]; exact C.g.keeps B.stays
 ·rw [F.bltn]; exact C.b.keeps B.stays
noncomputable def Bin (C : Ct) (n : Nat) (op : Operator) (a b : V) (H H' : List HObj) (v : V) : Prop :=
 ∀ (A : Around) (w : Wd) (Q E : Value → Shared → Prop) (x y : Value), Room A n → BSt C w H → VRel w a x → VRel w b y →
  (∀ w' r, Step [] w w' → BSt C w' H' → VRel w' v r → Q r w'.s) → wpAny C.M A (binaryOp op x y) Q E w.s
noncomputable def Cmp (C : Ct) (n : Nat) (op : CmpOp) (a b : V) (H : List HObj) (v : Bool) : Prop :=
 ∀ (A : Around) (w : Wd) (Q E : Value → Shared → Prop) (x y : Value), Room A n → BSt C w H → VRel w a x → VRel w b y →
  (∀ w', Step [] w w' → BSt C w' H → Q (.bool v) w'.s) → wpAny C.M A (compareOp op x y) Q E w.s
noncomputable def Una (C : Ct) (n : Nat) (op : UnaryOp) (a : V) (H : List HObj) (v : V) : Prop :=
 ∀ (A : Around) (w : Wd) (Q E : Value → Shared → Prop) (x : Value), Room A n → BSt C w H → VRel w a x →
  (∀ w' r, Step [] w w' → BSt C w' H → VRel w' v r → Q r w'.s) → wpAny C.M A (unaryOp op x) Q E w.s
noncomputable def Tru (C : Ct) (n : Nat) (a : V) (H : List HObj) (b : Bool) : Prop :=
 ∀ (A : Around) (w : Wd) (Q : Bool → Shared → Prop) (E : Value → Shared → Prop) (x : Value), Room A n → BSt C w H → VRel w a x →
  (∀ w', Step [] w w' → BSt C w' H → Q b w'.s) → wpAny C.M A (truthy x) Q E w.s
theorem Ev.bin {op : Operator} (h1 : Ev C n env σ H e1 H1 v1) (h2 : Ev C n env σ H1 e2 H2 v2) (ho : Bin C n op v1 v2 H2 H3 v) : Ev C n env σ H (.BinOp e1 op e2 pos) H3 v := by
 intro A w Q E R B F K
 refine wpAny_BinOp (h1 A w _ E R B F fun w1 y1 S1 B1 F1 r1 => h2 A w1 _ E R B1 F1 fun w2 y2 S2 B2 F2 r2 => ?_)
 exact ho A w2 Q E y1 y2 R B2 (r1.step0 S2) r2 fun w3 y S3 B3 r => K w3 y (S1.trans (S2.trans S3)) B3 (F2.step0 S3) r
theorem Ev.una {op : UnaryOp} (h1 : Ev C n env σ H e1 H1 v1) (ho : Una C n op v1 H1 v) : Ev C n env σ H (.UnaryOp op e1 pos) H1 v := by
 intro A w Q E R B F K
 refine wpAny_UnaryOp (h1 A w _ E R B F fun w1 y1 S1 B1 F1 r1 => ?_)
 exact ho A w1 Q E y1 R B1 r1 fun w3 y S3 B3 r => K w3 y (S1.trans S3) B3 (F1.step0 S3) r
theorem Ev.cmp {op : CmpOp} {b : Bool} (h1 : Ev C n env σ H e1 H1 v1) (h2 : Ev C n env σ H1 e2 H2 v2) (ho : Cmp C n op v1 v2 H2 b) (hm : behindInMarks op e2 = false) : Ev C n env σ H (.Compare e1 [op] [e2] pos) H2 (.bool b) := by
 intro A w Q E R B F K
 refine wpAny_Compare1 (h1 A w _ E R B F fun w1 y1 S1 B1 F1 r1 => h2 A w1 _ E R B1 F1 fun w2 y2 S2 B2 F2 r2 => ?_) hm
 exact ho A w2 Q E y1 y2 R B2 (r1.step0 S2) r2 fun w3 S3 B3 => K w3 _ (S1.trans (S2.trans S3)) B3 (F2.step0 S3) (.bool b)
theorem Tst.cmp {op : CmpOp} {b : Bool} (h1 : Ev C n env σ H e1 H1 v1) (h2 : Ev C n env σ H1 e2 H2 v2) (ho : Cmp C n op v1 v2 H2 b) (hm : behindInMarks op e2 = false := by rfl) : Tst C n env σ H (.Compare e1 [op] [e2] pos) H2 b := by
 intro A w Q E R B F K
 refine wpAny_isTrue_Compare1 (h1 A w _ E R B F fun w1 y1 S1 B1 F1 r1 => h2 A w1 _ E R B1 F1 fun w2 y2 S2 B2 F2 r2 => ?_) hm
 exact ho A w2 _ E y1 y2 R B2 (r1.step0 S2) r2 fun w3 S3 B3 => wpAny_truthy_bool (K w3 (S1.trans (S2.trans S3)) B3 (F2.step0 S3))
theorem Tst.val {b : Bool} (h1 : Ev C n env σ H e H1 v) (ht : Tru C n v H1 b) (he : isTrue e env (eval e env) = (do let v ← eval e env; standAt e.pos; holding [v] (truthy v))) : Tst C n env σ H e H1 b := by
 intro A w Q E R B F K
 refine isTrue_plain (h1 A w _ E R B F fun w1 y1 S1 B1 F1 r1 => ?_) he
 exact ht A w1 Q E y1 R B1 r1 fun w2 S2 B2 => K w2 (S1.trans S2) B2 (F1.step0 S2)
theorem Ev.ifT (h : Tst C n env σ H e1 H1 true) (h2 : Ev C n env σ H1 e2 H2 v) : Ev C n env σ H (.IfExp e1 e2 e3 pos) H2 v := by
 intro A w Q E R B F K
 refine wpAny_IfExp (h A w _ E R B F fun w1 S1 B1 F1 => ?_)
 rw [if_pos rfl]
 exact h2 A w1 Q E R B1 F1 fun w2 y S2 B2 F2 r => K w2 y (S1.trans S2) B2 F2 r
theorem Ev.ifF (h : Tst C n env σ H e1 H1 false) (h2 : Ev C n env σ H1 e3 H2 v) : Ev C n env σ H (.IfExp e1 e2 e3 pos) H2 v := by
 intro A w Q E R B F K
 refine wpAny_IfExp (h A w _ E R B F fun w1 S1 B1 F1 => ?_)
 rw [if_neg Bool.false_ne_true]
 exact h2 A w1 Q E R B1 F1 fun w2 y S2 B2 F2 r => K w2 y (S1.trans S2) B2 F2 r
theorem EvL.nil : EvL C n env σ H pos [] H [] := fun q_ w q_ q_ q_ B F K => spliced_nil (K w [] (Step.refl _ _) B F .nil)
theorem EvL.cons {es : List PySem.Expr} {vs : List V} (h1 : Ev C n env σ H e H1 v) (h2 : EvL C n env σ H1 pos es H2 vs) (he : ∀ env : Env, starEach (e :: es) env = (false, eval e env) :: starEach es env := by exact fun q_ => rfl) : EvL C n env σ H pos (e :: es) H2 (v :: vs) := by
 intro A w Q E R B F K
 refine args_cons (h1 A w _ E R B F fun w1 y1 S1 B1 F1 r1 => h2 A w1 _ E R B1 F1 fun w2 ys S2 B2 F2 r2 => ?_) (he env)
 exact K w2 _ (S1.trans S2) B2 F2 (.cons (r1.step0 S2) r2)
noncomputable def EvK (C : Ct) (n : Nat) (env : Env) (σ : Loc) (H : List HObj) (pos : Pos) (ks : List Keyword) (H' : List HObj) (vs : List V) : Prop :=
 ∀ (A : Around) (w : Wd) (Q : List Value → Shared → Prop) (E : Value → Shared → Prop), Room A n → BSt C w H → FSt C w env σ →
  (∀ w' ys, Step [] w w' → BSt C w' H' → FSt C w' env σ → VRels w' vs ys → Q ys w'.s) → wpAny C.M A (evalAll ((backToKw pos (keywordEach ks env)).map (·.2))) Q E w.s
theorem EvK.nil : EvK C n env σ H pos [] H [] := fun q_ w q_ q_ q_ B F K => kwAll_nil (K w [] (Step.refl _ _) B F .nil)
theorem EvK.cons {x : Str} {ks : List Keyword} {vs : List V} (h1 : Ev C n env σ H e H1 v) (h2 : EvK C n env σ H1 pos ks H2 vs) : EvK C n env σ H pos (⟨some x, e, p⟩ :: ks) H2 (v :: vs) := by
 intro A w Q E R B F K
 refine kwAll_cons (h1 A w _ E R B F fun w1 y1 S1 B1 F1 r1 => h2 A w1 _ E R B1 F1 fun w2 ys S2 B2 F2 r2 => ?_)
 exact K w2 _ (S1.trans S2) B2 F2 (.cons (r1.step0 S2) r2)
noncomputable def EvA (C : Ct) (n : Nat) (env : Env) (σ : Loc) (H : List HObj) (pos : Pos) (es : List PySem.Expr) (ks : List Keyword) (H' : List HObj) (vs : List V) (kv : List (Str × V)) : Prop :=
 ∀ (A : Around) (w : Wd) (f : Value) (Q : Args → Shared → Prop) (E : Value → Shared → Prop), Room A n → BSt C w H → FSt C w env σ →
  (∀ w' ys zs, Step [] w w' → BSt C w' H' → FSt C w' env σ → VRels w' vs ys → VRels w' (kv.map (·.2)) zs → Q ⟨ys, (kv.map (·.1)).zip zs⟩ w'.s) →
   wpAny C.M A (evalArgs f true (backTo pos (starEach es env)) (backToKw pos (keywordEach ks env))) Q E w.s
theorem EvA.nil : EvA C n env σ H pos [] [] H [] [] := fun q_ w q_ q_ q_ q_ B F K => evalArgs_nil3 (K w [] [] (Step.refl _ _) B F .nil .nil)
theorem EvA.args {es : List PySem.Expr} {vs : List V} (h : EvL C n env σ H pos (e :: es) H' vs) (he : ∀ env : Env, starEach (e :: es) env = (false, eval e env) :: starEach es env := by exact fun q_ => rfl) : EvA C n env σ H pos (e :: es) [] H' vs [] := by
 intro A w f Q E R B F K
 have q := h A w (fun ys s => Q ⟨ys, []⟩ s) E R B F fun w1 ys S1 B1 F1 r1 => K w1 ys [] S1 B1 F1 r1 .nil
 rw [he env] at q ⊢
 exact evalArgs_plain q
theorem EvA.kw {es : List PySem.Expr} {ks : List Keyword} {vs : List V} {kv : List (Str × V)} (h : EvL C n env σ H pos (e :: es) H1 vs) (h2 : EvK C n env σ H1 pos ks H2 (kv.map (·.2)))
  (he : ∀ env : Env, starEach (e :: es) env = (false, eval e env) :: starEach es env) (hn : ∀ env : Env, (backToKw pos (keywordEach ks env)).filterMap (·.1) = kv.map (·.1)) (ha : ∀ env : Env, (backToKw pos (keywordEach ks env)).all (·.1.isSome) = true) :
  EvA C n env σ H pos (e :: es) ks H2 vs kv := by
 intro A w f Q E R B F K
 have q := h A w (fun ys s => wpAny C.M A (evalAll ((backToKw pos (keywordEach ks env)).map (·.2))) (fun zs s₂ => Q ⟨ys, ((backToKw pos (keywordEach ks env)).filterMap (·.1)).zip zs⟩ s₂) E s) E R B F fun w1 ys S1 B1 F1 r1 =>
  h2 A w1 _ E R B1 F1 fun w2 zs S2 B2 F2 r2 => by rw [hn env]; exact K w2 ys zs (S1.trans S2) B2 F2 (r1.step0 S2) r2
 rw [he env] at q ⊢
 exact evalArgs_kw (ha env) q
noncomputable def KpAt (C : Ct) (f : Value) (h : Heap) : Prop := ∃ k, (k = Keeper.frame ∨ k = Keeper.machine ∨ k = Keeper.boundFrame) ∧ Looks C.M h (keeperOf f) k
noncomputable def Kp (C : Ct) (f : V) : Prop := ∀ (w : Wd) (H : List HObj) (g : Value), BSt C w H → VRel w f g → KpAt C g w.h
theorem Kp.ofK {f : Value} (h : keepIn C.K f = true) : Kp C (.val f) := fun w H g B r => by obtain ⟨_, rfl⟩ := r.inv; exact keeps_K h w.h B.X
theorem Kp.blt {id : String} : Kp C (.val (.builtin id)) := fun q_ q_ q_ q_ r => by obtain ⟨_, rfl⟩ := r.inv; exact ⟨.machine, .inr (.inl rfl), Looks.of_pure rfl⟩
theorem Kp.typ {id : String} : Kp C (.val (.type id)) := fun q_ q_ q_ q_ r => by obtain ⟨_, rfl⟩ := r.inv; exact ⟨.machine, .inr (.inl rfl), Looks.of_pure rfl⟩
theorem Ev.call {f : V} {id : Str} {es : List PySem.Expr} {ks : List Keyword} {vs : List V} {kv : List (Str × V)} (hf : Ev C n env σ H (.Name id p) H1 f) (ha : EvA C n env σ H1 pos es ks H2 vs kv)
  (hc : Fn C n f vs kv H2 H3 v) (hk : Kp C f) (hp : ∀ env : Env, ((backTo pos (starEach es env)).any (·.1) || (backToKw pos (keywordEach ks env)).any (·.1.isNone)) = false := by exact fun q_ => rfl) : Ev C n env σ H (.Call (.Name id p) es ks pos) H3 v := by
 intro A w Q E R B F K
 refine wpAny_Call_Name_kw (hf A w _ E R B F fun w1 g S1 B1 F1 r1 => ?_)
 refine callWith_of (P := KpAt C g) (hp env) (fun q_ z => z) (ha A w1 g _ E R B1 F1 fun w2 ys zs S2 B2 F2 r2 r3 => ⟨hk w2 H2 g B2 (r1.step0 S2), ?_⟩)
 exact hc A w2 Q E g ys zs R B2 (r1.step0 S2) r2 r3 fun w3 y S3 B3 r => K w3 y (S1.trans (S2.trans S3)) B3 (F2.step0 S3) r
end
end
section
theorem bindL_out {kd : Str → Option NameKind} {x : Str} (bs : List (Str × Value)) (m : Str → Option Value) (h : x ∉ bs.map (·.1)) : bindL kd bs m x = m x := by
 induction bs generalizing m with
 | nil => rfl
 | cons p r ih =>
  unfold bindL
  rw [ih _ fun e => h (.tail _ e)]
  by_cases z : kd p.1 = some .local
  ·rw [if_pos z]; exact if_neg fun e => h (by rw [e]; exact .head _)
  ·rw [if_neg z]
theorem bindL_of {kd : Str → Option NameKind} {x : Str} {y : Value} (hk : kd x = some .local) (bs : List (Str × Value)) (m : Str → Option Value) (h : (x, y) ∈ bs) (hn : (bs.map (·.1)).Nodup) : bindL kd bs m x = some y := by
 induction bs generalizing m with
 | nil => cases h
 | cons p r ih =>
  have hn' := List.nodup_cons.mp hn
  unfold bindL
  rcases List.mem_cons.mp h with e | e
  ·subst e
   rw [bindL_out r _ hn'.1, if_pos hk, if_pos rfl]
  ·exact ih _ e hn'.2
theorem bindC_out {kd : Str → Option NameKind} {x : Str} (bs : List (Str × Value)) (m : Str → Option Value) (h : x ∉ bs.map (·.1)) : bindC kd bs m x = m x := by
 induction bs generalizing m with
 | nil => rfl
 | cons p r ih =>
  unfold bindC
  rw [ih _ fun e => h (.tail _ e)]
  by_cases z : kd p.1 = some .local
  ·rw [if_pos z]
  ·rw [if_neg z]; exact if_neg fun e => h (by rw [e]; exact .head _)
theorem bindC_of {kd : Str → Option NameKind} {x : Str} {y : Value} (hk : kd x = some .cell) (bs : List (Str × Value)) (m : Str → Option Value) (h : (x, y) ∈ bs) (hn : (bs.map (·.1)).Nodup) : bindC kd bs m x = some y := by
 induction bs generalizing m with
 | nil => cases h
 | cons p r ih =>
  have hn' := List.nodup_cons.mp hn
  unfold bindC
  rcases List.mem_cons.mp h with e | e
  ·subst e
   rw [bindC_out r _ hn'.1, if_neg (by rw [hk]; decide), if_pos rfl]
  ·exact ih _ e hn'.2
theorem lookup_of_mem' {α : Type} {x : Str} {y : α} {l : List (Str × α)} (h : (x, y) ∈ l) : ∃ z, l.lookup x = some z := by
 induction l with
 | nil => cases h
 | cons p l ih =>
  simp only [List.lookup]
  cases q : x == p.1 with
  | true => exact ⟨_, rfl⟩
  | false => exact ih ((List.mem_cons.mp h).resolve_left fun z => by rw [← z, beq_self_eq_true] at q; cases q)
theorem cells_has {x : Str} (names : List (Str × NameKind)) (n : Nat) (acc : List (Str × Addr)) (h : (x, NameKind.cell) ∈ names ∨ ∃ c, acc.lookup x = some c) : ∃ c, (cellsFrom n names acc).lookup x = some c := by
 induction names generalizing n acc with
 | nil => exact h.resolve_left fun z => nomatch z
 | cons p r ih =>
  unfold cellsFrom
  cases e : p.2 == NameKind.cell with
  | true =>
   rw [if_pos rfl]
   refine ih _ _ ?_
   cases q : x == p.1 with
   | true => exact .inr ⟨n, by rw [List.lookup_cons, q]⟩
   | false => exact h.imp (fun h => (List.mem_cons.mp h).resolve_left fun z => by rw [← z, beq_self_eq_true] at q; cases q) fun ⟨c, h⟩ => ⟨c, by rw [List.lookup_cons, q]; exact h⟩
  | false =>
   rw [if_neg (by decide)]
   exact ih _ _ (h.imp_left fun h => (List.mem_cons.mp h).resolve_left fun z => by rw [← z] at e; cases e)
noncomputable def namesOk (fd : FuncData) (ns : List Str) : Bool := ns.all fun x => fd.scope.names.lookup x == some .local || fd.scope.names.lookup x == some .cell
noncomputable def fdOk (fd : FuncData) : Bool := fd.globals == mainGlobals && fd.builtins == builtinsNs && fd.closure.isEmpty && !fd.scope.isCoroutine && !fd.scope.isGenerator && fd.scope.kind == .function && decide (((cellsFrom 0 fd.scope.names []).map (·.1)).Nodup)
noncomputable def Binds (C : Ct) (fd : FuncData) (args : List V) (kw : List (Str × V)) (ns : List Str) (vs : List V) : Prop :=
 ∀ (w : Wd) (xs ks : List Value), VRels w args xs → VRels w (kw.map (·.2)) ks → ∃ ys, VRels w vs ys ∧ Looks C.M C.h₀ (bindArgs fd ⟨xs, (kw.map (·.1)).zip ks⟩) (ns.zip ys)
noncomputable def FnC (C : Ct) (n : Nat) (f : V) (args : List V) (kw : List (Str × V)) (H H' : List HObj) (v : V) : Prop :=
 ∀ (A : Around) (w : Wd) (R : Result → Shared → Prop) (g : Value) (xs : List Value) (ks : List Value), Room A n → BSt C w H → VRel w f g → VRels w args xs → VRels w (kw.map (·.2)) ks →
  (∀ w' y, Step [] w w' → BSt C w' H' → VRel w' v y → R (.ok (.ret y)) w'.s) → codeAny C.M A (.call g ⟨xs, (kw.map (·.1)).zip ks⟩) R w.s
noncomputable def BindsX (C : Ct) (fd : FuncData) (args : List V) (kw : List (Str × V)) (ns : List Str) (vs : List V) (H H1 : List HObj) : Prop :=
 ∀ (A : Around) (w : Wd) (Q : List (Str × Value) → Shared → Prop) (E : Value → Shared → Prop) (xs ks : List Value), A.handled = none → BSt C w H → VRels w args xs → VRels w (kw.map (·.2)) ks →
  (∀ w' ys, Step [] w w' → BSt C w' H1 → VRels w' vs ys → Q (ns.zip ys) w'.s) → wpAny C.M A (bindArgs fd ⟨xs, (kw.map (·.1)).zip ks⟩) Q E w.s
inductive Fin : Out → V → List HObj → Prop
 | ret {v H} : Fin (.ret v H) v H
 | next {σ H} : Fin (.next σ H) .none H
theorem zip_slots {w : Wd} {ns : List Str} {vs : List V} {ys : List Value} (r : VRels w vs ys) {x : Str} {v : V} (e : (ns.zip vs).lookup x = some v) : ∃ y, (x, y) ∈ ns.zip ys ∧ VRel w v y := by
 induction ns generalizing vs ys with
 | nil => cases e
 | cons n ns ih =>
  cases vs with
  | nil => cases e
  | cons u vs =>
   obtain ⟨y, ys, rfl, a, r⟩ := r.inv
   rw [List.zip_cons_cons, List.lookup_cons] at e
   cases q : x == n with
   | true => rw [q] at e; cases e; rw [eq_of_beq q]; exact ⟨_, .head _, a⟩
   | false => rw [q] at e; exact (ih r e).imp fun y h => ⟨.tail _ h.1, h.2⟩
theorem map_fst_zip_sub {α : Type} (ns : List Str) (ys : List α) (x : Str) (h : x ∈ (ns.zip ys).map (·.1)) : x ∈ ns := by
 obtain ⟨p, m, rfl⟩ := List.mem_map.mp h
 exact (List.of_mem_zip m).1
theorem zip_nodup {α : Type} (ns : List Str) (ys : List α) (h : ns.Nodup) : ((ns.zip ys).map (·.1)).Nodup := by
 induction ns generalizing ys with
 | nil => exact List.nodup_nil
 | cons n ns ih =>
  cases ys with
  | nil => exact List.nodup_nil
  | cons y ys => exact List.nodup_cons.mpr ⟨fun m => (List.nodup_cons.mp h).1 (map_fst_zip_sub ns ys n m), ih ys (List.nodup_cons.mp h).2⟩
section
variable {C : Ct} {n : Nat} {env : Env} {σ σ' : Loc} {H H' H0 H1 H2 H3 : List HObj} {pos p : Pos} {k : Nat} {x : Str} {v v1 v2 v3 : V} {e e1 e2 e3 : PySem.Expr} {o : Out}
theorem FnC.fn {f : V} {args : List V} {kw : List (Str × V)} (h : FnC C n f args kw H H' v) : Fn C n f args kw H H' v := fun A w q_ q_ g xs ks R B rg rx rk K => wpAny_call (h A w _ g xs ks R B rg rx rk fun w' y S B' r => K w' y S B' r)
theorem Binds.wide {fd : FuncData} {args : List V} {kw : List (Str × V)} {ns : List Str} {vs : List V} (h : Binds C fd args kw ns vs) : BindsX C fd args kw ns vs H H := by
 intro A w Q E xs ks _ B rx rk K
 obtain ⟨ys, ry, look⟩ := h w xs ks rx rk
 exact (look.keeps B.stays).here (K w ys (Step.refl _ _) B ry)
theorem Step.out {env : Env} {w w1 w2 : Wd} (X1 : Ext w w1) (notX : ∀ a o, w.h.get? a = some o → a ∉ fw env) (S2 : Step (fw env) w1 w2) : Step [] w w2 := by
 refine ⟨?_, fun a o e n q_ => ?_, fun a o e q_ => ?_, S2.gens.trans X1.gens, S2.os.trans X1.os, S2.pin.trans X1.pin, Nat.le_trans X1.tk S2.tk⟩
 ·obtain ⟨δ, h1, h2⟩ := S2.rho
  refine ⟨δ, by rw [h1, X1.rho], fun a m => ⟨?_, fun z => nomatch z⟩⟩
  cases e : w.h.get? a with
  | none => rfl
  | some o => have := (h2 a m).1; rw [X1.keep a o e] at this; cases this
 ·exact S2.keep a o (X1.keep a o e) (by rw [X1.rho]; exact n) (notX a o e)
 ·exact S2.live a o (X1.keep a o e) (notX a o e)
theorem FnC.enter {f : Addr} {fd : FuncData} {oc : Value} {od : Option Addr} {osl : Array (Option Value)} {body : List Stmt} {args : List V} {kw : List (Str × V)} {ns : List Str} {vs : List V}
  (ho : C.K.lookup f = some ⟨oc, od, .func fd, osl⟩) (hb : fd.body = .stmts body) (hst : fdOk fd = true) (hcd : codeIn C.K fd.code fd.qualname = true) (hns : namesOk fd ns = true) (hnd : ns.Nodup)
  (hbind : BindsX C fd args kw ns vs H H1) {A : Around} {w0 : Wd} {R' : Result → Shared → Prop} {g : Value} {xs ks : List Value} (R : Room A (n + 1)) (B0 : BSt C w0 H) (rg : VRel w0 (.val (.ref f)) g) (rx : VRels w0 args xs) (rk : VRels w0 (kw.map (·.2)) ks)
  (K : ∀ (w w1 : Wd) (L : Addr), Step [] w0 w → Ext w w1 → L = w.s.heap.objs.size → (∀ a o, w.h.get? a = some o → a ∉ fw (callEnvC fd L f)) → BSt C w1 H1 → FSt C w1 (callEnvC fd L f) (ns.zip vs) →
   wpAny C.M (A.deeper (callEnvC fd L f)) (execs body (callEnvC fd L f)) (fun fl s₂ => R' (.ok (.ret (match fl with | .ret v => v | _ => .none))) s₂)
    (fun e s₂ => wpAny C.M (A.deeper (callEnvC fd L f)) (leaving (callEnvC fd L f) e) (fun q_ s'' => R' (.error e) s'') (fun e' s'' => R' (.error e') s'') s₂) w1.s) :
  codeAny C.M A (.call g ⟨xs, (kw.map (·.1)).zip ks⟩) R' w0.s := by
 obtain ⟨_, rfl⟩ := rg.inv
 simp only [fdOk, Bool.and_eq_true, beq_iff_eq, List.isEmpty_iff, Bool.not_eq_true', decide_eq_true_eq] at hst
 obtain ⟨⟨⟨⟨⟨⟨hgl, hbl⟩, hcl⟩, hco⟩, hgen⟩, hkd⟩, hcn⟩ := hst
 refine codeAny_call_function R.lim (B0.X _ _ ho) rfl hco hgen hb (codeRec_of B0.X hcd) (hbind A.in1 w0 _ _ xs ks R.hd B0 rx rk fun w ys S0 B ry => ?_)
 rw [hcl]
 refine wpAny_with_toks (Nat.le_refl _) (wpAny_newFunctionEnv_cells hkd (fun z hz => ?_) fun env he s' I htk => ?_)
 ·have hz' : z.1 ∈ ns := map_fst_zip_sub ns ys z.1 (List.mem_map_of_mem (f := (·.1)) hz)
  have := List.all_eq_true.mp hns z.1 hz'
  simp only [Bool.or_eq_true, beq_iff_eq] at this
  rcases this with h | h
  ·exact .inl h
  ·refine .inr ⟨h, ?_⟩
   obtain ⟨c', hc'⟩ := cells_has fd.scope.names (w.s.heap.objs.size + 1) [] (.inl (mem_of_lookup h))
   rw [hc']; rfl
 ·subst he
  obtain ⟨h₁, tk, hs', hk₁⟩ := I.done
  have X1 : Ext w ⟨w.ρ, w.π, s'⟩ := ⟨rfl, fun b o e => by rw [hs']; exact hk₁ b o e, by rw [hs'], by rw [hs'], rfl, htk⟩
  have ncell : ∀ p ∈ cellsFrom (w.s.heap.objs.size + 1) fd.scope.names [], w.s.heap.objs.size < p.2 := fun p hp => I.above p.1 p.2 hp
  have fresh : ∀ a, w.s.heap.objs.size ≤ a → w.h.get? a = none := fun a ha => by
   cases q : w.h.get? a with
   | none => rfl
   | some o => exact absurd (Heap.lt_size q) (Nat.not_lt.mpr ha)
  have live : ∀ a ∈ w.ρ, ∃ o, w.h.get? a = some o := fun a ha => by
   obtain ⟨i, hi⟩ := List.getElem?_of_mem ha
   have hl : i < H1.length := by rw [← B.len]; exact (List.getElem?_eq_some_iff.mp hi).1
   exact (B.obj i a _ hi (List.getElem?_eq_getElem hl)).live
  have notin : ∀ a, w.s.heap.objs.size ≤ a → a ∉ w.ρ := fun a ha m => by
   obtain ⟨o, ho⟩ := live a m
   rw [fresh a ha] at ho; cases ho
  have cellof : ∀ p ∈ cellsFrom (w.s.heap.objs.size + 1) fd.scope.names [], ∃ v₀, s'.heap.IsCell p.2 v₀ := fun p hp =>
   ⟨_, I.cell p.1 p.2 (lookup_of_mem_nodup (cellsFrom_names fd.scope.names 0 (w.s.heap.objs.size + 1) [] [] rfl ▸ hcn) hp)⟩
  have F1 : FSt C ⟨w.ρ, w.π, s'⟩ (callEnvC fd w.s.heap.objs.size f) (ns.zip vs) := by
   refine ⟨fun a m => ?_, hgl, hbl, hkd, ⟨_, I.toInCall.ns, fun x v e => ?_⟩, notin _ (Nat.le_refl _), fun p hp => ⟨notin _ (Nat.le_of_lt (ncell p hp)), cellof p hp⟩, ?_, fun x hx => ?_, fun a m q => ?_⟩
   ·cases q : C.h₀.get? a with
    | none => rfl
    | some o =>
     have lt := Heap.lt_size (B.stays a o q)
     exfalso
     rcases List.mem_cons.mp m with rfl | m
     ·exact Nat.lt_irrefl _ lt
     ·obtain ⟨p, hp, rfl⟩ := List.mem_map.mp m
      exact Nat.lt_asymm lt (ncell p hp)
   ·obtain ⟨y, hm, hv⟩ := zip_slots ry e
    refine ⟨y, ?_, hv.ext X1⟩
    have hx' : x ∈ ns := map_fst_zip_sub ns ys x (List.mem_map_of_mem (f := (·.1)) hm)
    have := List.all_eq_true.mp hns x hx'
    simp only [Bool.or_eq_true, beq_iff_eq] at this
    rcases this with h | h
    ·exact .inl ⟨h, bindL_of h _ _ hm (zip_nodup ns ys hnd)⟩
    ·obtain ⟨c', hc'⟩ := cells_has fd.scope.names (w.s.heap.objs.size + 1) [] (.inl (mem_of_lookup h))
     refine .inr ⟨.inl h, c', hc', ?_⟩
     have z := I.cell x c' hc'
     have z2 := bindC_of (kd := (callEnvC fd w.s.heap.objs.size f).kindOf) h (ns.zip ys) (fun q_ => Option.none) hm (zip_nodup ns ys hnd)
     exact z2 ▸ z
   ·have := I.apart
    exact List.pairwise_map.mpr this
   ·exact cells_has fd.scope.names (w.s.heap.objs.size + 1) [] (.inl (mem_of_lookup hx))
   ·obtain ⟨_, o, ho⟩ := B.pins a q
    have lt : a < w.s.heap.objs.size := Heap.lt_size ho
    rcases List.mem_cons.mp (fw_fr m) with rfl | m
    ·exact Nat.lt_irrefl _ lt
    ·obtain ⟨p, hp, rfl⟩ := List.mem_map.mp m
     exact Nat.lt_asymm lt (ncell p hp)
  refine ⟨(C.lim.keeps B.stays).keeps hk₁ |> fun z => by rw [hs']; exact z, codeAny_func ?_⟩
  have notX : ∀ a o, w.h.get? a = some o → a ∉ fw (callEnvC fd w.s.heap.objs.size f) := fun a o e m => by
   have lt : a < w.s.heap.objs.size := Heap.lt_size e
   rcases List.mem_cons.mp (fw_fr m) with rfl | m
   ·exact Nat.lt_irrefl _ lt
   ·obtain ⟨p, hp, rfl⟩ := List.mem_map.mp m
    exact Nat.lt_asymm lt (ncell p hp)
  exact K w ⟨w.ρ, w.π, s'⟩ w.s.heap.objs.size S0 X1 rfl notX (B.ext X1) F1
theorem FnC.ofDefE {f : Addr} {fd : FuncData} {oc : Value} {od : Option Addr} {osl : Array (Option Value)} {body : List Stmt} {args : List V} {kw : List (Str × V)} {ns : List Str} {vs : List V}
  (ho : C.K.lookup f = some ⟨oc, od, .func fd, osl⟩) (hb : fd.body = .stmts body) (hst : fdOk fd = true) (hcd : codeIn C.K fd.code fd.qualname = true) (hns : namesOk fd ns = true) (hnd : ns.Nodup)
  (hbind : BindsX C fd args kw ns vs H H1) (hbody : ∀ env : Env, env.scope = fd.scope → env.code = fd.code → env.qual = fd.qualname ++ ".<locals>." → Ex C n env (ns.zip vs) H1 body o) (hfin : Fin o v H') : FnC C (n + 1) (.val (.ref f)) args kw H H' v := by
 intro A w0 R' g xs ks R B0 rg rx rk K
 refine FnC.enter ho hb hst hcd hns hnd hbind R B0 rg rx rk fun w w1 L S0 X1 eL notX B1 F1 => ?_
 have q := hbody (callEnvC fd L f) rfl rfl rfl (A.deeper (callEnvC fd L f)) w1 (fun fl s₂ => R' (.ok (.ret (match fl with | .ret v => v | _ => .none))) s₂)
  (fun e s₂ => wpAny C.M (A.deeper (callEnvC fd L f)) (leaving (callEnvC fd L f) e) (fun q_ s'' => R' (.error e) s'') (fun e' s'' => R' (.error e') s'') s₂)
  R.deeper B1 F1 fun w2 fl S2 O2 => ?_
 ·exact wpAny_mono q (fun fl s₂ z => by cases fl <;> exact z) fun q_ q_ z => z
 ·have S := S2.out X1 notX
  cases hfin with
  | ret => obtain ⟨_, rfl, B2, r2⟩ := O2.inv; exact K w2 _ (S0.trans S) B2 r2
  | next => obtain ⟨rfl, B2, _⟩ := O2.inv; exact K w2 _ (S0.trans S) B2 .none
theorem FnC.ofDef {f : Addr} {fd : FuncData} {oc : Value} {od : Option Addr} {osl : Array (Option Value)} {body : List Stmt} {args : List V} {kw : List (Str × V)} {ns : List Str} {vs : List V}
  (ho : C.K.lookup f = some ⟨oc, od, .func fd, osl⟩) (hb : fd.body = .stmts body) (hst : fdOk fd = true) (hcd : codeIn C.K fd.code fd.qualname = true) (hns : namesOk fd ns = true) (hnd : ns.Nodup)
  (hbind : BindsX C fd args kw ns vs H H1) (hbody : ∀ env : Env, env.scope = fd.scope → Ex C n env (ns.zip vs) H1 body o) (hfin : Fin o v H') : FnC C (n + 1) (.val (.ref f)) args kw H H' v :=
 FnC.ofDefE ho hb hst hcd hns hnd hbind (fun env h q_ q_ => hbody env h) hfin
theorem Fn.ofDef {f : Addr} {fd : FuncData} {oc : Value} {od : Option Addr} {osl : Array (Option Value)} {body : List Stmt} {args : List V} {kw : List (Str × V)} {ns : List Str} {vs : List V}
  (ho : C.K.lookup f = some ⟨oc, od, .func fd, osl⟩) (hb : fd.body = .stmts body) (hst : fdOk fd = true) (hcd : codeIn C.K fd.code fd.qualname = true) (hns : namesOk fd ns = true) (hnd : ns.Nodup)
  (hbind : Binds C fd args kw ns vs) (hbody : ∀ env : Env, env.scope = fd.scope → Ex C n env (ns.zip vs) H body o) (hfin : Fin o v H') : Fn C (n + 1) (.val (.ref f)) args kw H H' v := (FnC.ofDef ho hb hst hcd hns hnd (Binds.wide hbind) hbody hfin).fn
end
end
section
section
variable {C : Ct} {n : Nat} {env : Env} {σ σ' σ1 : Loc} {H H' H0 H1 H2 H3 : List HObj} {pos p : Pos} {k : Nat} {x : Str} {v v1 v2 v3 : V} {e e1 e2 e3 : PySem.Expr} {o : Out}
theorem BSt.turn {X : List Addr} {w w' : Wd} (B : BSt C w H) (hX : NonSeq w X) (S : Step X w w') (hr : w'.ρ = w.ρ) (ho : ∀ a o, C.h₀.get? a = some o → a ∉ X) (ht : ∀ a ∈ w.ρ, ∀ o, w.h.get? a = some o → w'.h.get? a = some o) : BSt C w' H := by
 refine ⟨fun b o e => S.keep b o (B.stays b o e) (fun m => by rw [(B.out b m).1] at e; cases e) (ho b o e), fun a m => B.out a (hr ▸ m), hr ▸ B.nodup, hr ▸ B.len, fun i a o e1 e2 => ?_, fun a m => ?_, fun h => Nat.lt_of_lt_of_le (B.tok h) S.tk, B.tops⟩
 ·rw [hr] at e1
  exact (B.obj i a o e1 e2).move hX S (ht a (List.mem_of_getElem? e1))
 ·rw [S.pin] at m
  obtain ⟨h1, o, e⟩ := B.pins a m
  exact ⟨hr ▸ h1, o, S.keep a o e h1 fun z => (hX a z).1 m⟩
theorem Step.more {X Y : List Addr} {w w' : Wd} (S : Step X w w') (hr : w'.ρ = w.ρ) (h : ∀ a ∈ X, a ∈ Y) : Step Y w w' :=
 ⟨⟨[], by simp [hr], by simp⟩, fun a o e n m => S.keep a o e n fun z => m (h a z), fun a o e m => S.live a o e fun z => m (h a z), S.gens, S.os, S.pin, S.tk⟩
noncomputable def Sto (env : Env) (x : Str) : Prop := env.kindOf x = some .local ∨ env.kindOf x = some .cell
theorem name_of_cell {env : Env} (hn : (env.cells.map (·.2)).Nodup) {x y : Str} {c : Addr} (h1 : (x, c) ∈ env.cells) (h2 : (y, c) ∈ env.cells) : x = y := by
 have h : env.cells.Pairwise fun a b => a.2 ≠ b.2 := List.pairwise_map.mp hn
 exact name_of_addr h h1 h2
set_option tactic.hygienic true in
theorem storeL {A : Around} {w : Wd} {y : Value} {Q : Unit → Shared → Prop} {E : Value → Shared → Prop} (B : BSt C w H) (F : FSt C w env σ) (r : VRel w v y) (hl : env.kindOf x = some .local)
  (K : ∀ w', Step [env.locals] w w' → w'.ρ = w.ρ → BSt C w' H → FSt C w' env ((x, v) :: σ) → Q () w'.s) : wpAny C.M A (storeName env x y) Q E w.s := by
 obtain ⟨m, hn, hm⟩ := F.ns
 refine wpAny_storeName_local hl hn (fun h' hn' hs => ?_) (by rw [F.kind]; rfl)
 have S : Step [env.locals] w ⟨w.ρ, w.π, { w.s with heap := h', toks := w.s.toks + 1 }⟩ :=
  ⟨⟨[], by simp, by simp⟩, fun a o e q_ m => (hs.2 a fun q => m (q ▸ .head _)).trans e, fun a o e q_ => by
   by_cases q : a = env.locals
   ·subst q
    obtain ⟨o', _, _, ho', _⟩ := hn'
    exact ⟨o', ho'⟩
   ·exact ⟨o, (hs.2 a q).trans e⟩, rfl, rfl, rfl, Nat.le_succ _⟩
 have hNS : NonSeq w [env.locals] := fun a m => by rw [List.mem_singleton.mp m]; exact F.nonSeq _ (.head _)
 have B' := B.turn hNS S rfl (fun a o e m => by rw [List.mem_singleton.mp m, F.own _ (.head _)] at e; cases e) fun a m o e => (hs.2 a fun q => F.out (q ▸ m)).trans e
 refine K _ S rfl B' ⟨F.own, F.glob, F.bltn, F.kind, ⟨_, hn', fun z u e => ?_⟩, F.out, fun p hp => ?_, F.nodup, F.full, F.pin⟩
 ·simp only [List.lookup] at e
  split at e
  ·rename_i q; cases e
   rw [beq_iff_eq.mp q]
   exact ⟨y, .inl ⟨hl, if_pos rfl⟩, r.step hNS S⟩
  ·rename_i q
   obtain ⟨y', h1, h2⟩ := hm z u e
   refine ⟨y', ?_, h2.step hNS S⟩
   rcases h1 with ⟨h, h'⟩ | ⟨h, c, e, o, ho, hd⟩
   ·exact .inl ⟨h, (if_neg (by intro z; rw [z] at q; simp at q)).trans h'⟩
   ·refine .inr ⟨h, c, e, o, (hs.2 c fun q => ?_).trans ho, hd⟩
    obtain ⟨oL, _, _, hoL, hdL, _⟩ := hn
    rw [q] at ho; obtain rfl := Option.some.inj (hoL.symm.trans ho); exact nomatch hdL.symm.trans hd
 ·obtain ⟨h1, v₀, o, ho, hd⟩ := F.cells p hp
  refine ⟨h1, v₀, o, (hs.2 p.2 fun q => ?_).trans ho, hd⟩
  obtain ⟨oL, _, _, hoL, hdL, _⟩ := hn
  rw [q] at ho; obtain rfl := Option.some.inj (hoL.symm.trans ho); exact nomatch hdL.symm.trans hd
set_option tactic.hygienic true in
theorem storeC {A : Around} {w : Wd} {y : Value} {Q : Unit → Shared → Prop} {E : Value → Shared → Prop} (B : BSt C w H) (F : FSt C w env σ) (r : VRel w v y) (hl : env.kindOf x = some .cell)
  (K : ∀ w', Step (fw env) w w' → BSt C w' H → FSt C w' env ((x, v) :: σ) → Q () w'.s) : wpAny C.M A (storeName env x y) Q E w.s := by
 obtain ⟨m, hn, hm⟩ := F.ns
 obtain ⟨c, hc⟩ := F.full x hl
 have hmem : (x, c) ∈ env.cells := mem_of_lookup hc
 obtain ⟨cn, v₀, hcell⟩ := F.cells _ hmem
 refine wpAny_storeName_cell F.kind hl hc hcell fun h' hv hs => ?_
 have inX : c ∈ fw env := .tail _ (List.mem_map_of_mem (f := (·.2)) (List.mem_filter.mpr ⟨hmem, by rw [hl]; rfl⟩))
 have S : Step (fw env) w ⟨w.ρ, w.π, { w.s with heap := h' }⟩ :=
  ⟨⟨[], by simp, by simp⟩, fun a o e q_ m => (hs.2 a fun q => m (q ▸ inX)).trans e, fun a o e q_ => by
   by_cases q : a = c
   ·subst q
    obtain ⟨o', ho', _⟩ := hv
    exact ⟨o', ho'⟩
   ·exact ⟨o, (hs.2 a q).trans e⟩, rfl, rfl, rfl, Nat.le_refl _⟩
 have B' := B.turn F.nonSeq S rfl (fun a o e m => by rw [F.own a (fw_fr m)] at e; cases e) fun a m o e => (hs.2 a fun q => cn (q ▸ m)).trans e
 have lc : env.locals ≠ c := fun q => by
  obtain ⟨oL, _, _, hoL, hdL, _⟩ := hn
  obtain ⟨o, ho, hd⟩ := hcell
  rw [q] at hoL
  have ho' : w.s.heap.get? c = some o := ho
  obtain rfl := Option.some.inj (ho'.symm.trans hoL); exact nomatch hdL.symm.trans hd
 refine K _ S B' ⟨F.own, F.glob, F.bltn, F.kind, ⟨m, hn.sameBut hs lc, fun z u e => ?_⟩, F.out, fun p hp => ?_, F.nodup, F.full, F.pin⟩
 ·simp only [List.lookup] at e
  split at e
  ·rename_i q; cases e
   rw [beq_iff_eq.mp q]
   exact ⟨y, .inr ⟨.inl hl, c, hc, hv⟩, r.step F.nonSeq S⟩
  ·rename_i q
   obtain ⟨y', h1, h2⟩ := hm z u e
   refine ⟨y', ?_, h2.step F.nonSeq S⟩
   rcases h1 with h | ⟨h, c', e', hcc⟩
   ·exact .inl h
   ·refine .inr ⟨h, c', e', hcc.sameBut hs fun qq => ?_⟩
    subst qq
    have := name_of_cell F.nodup (mem_of_lookup e') hmem
    rw [this] at q; simp at q
 ·obtain ⟨h1, v₁, hcc⟩ := F.cells p hp
  refine ⟨h1, ?_⟩
  by_cases q : p.2 = c
  ·exact ⟨_, q ▸ hv⟩
  ·exact ⟨v₁, hcc.sameBut hs q⟩
theorem store {A : Around} {w : Wd} {y : Value} {Q : Unit → Shared → Prop} {E : Value → Shared → Prop} (B : BSt C w H) (F : FSt C w env σ) (r : VRel w v y) (hk : Sto env x)
  (K : ∀ w', Step (fw env) w w' → BSt C w' H → FSt C w' env ((x, v) :: σ) → Q () w'.s) : wpAny C.M A (storeName env x y) Q E w.s := by
 rcases hk with hl | hl
 ·exact storeL B F r hl fun w' S hr B' F' => K w' (S.more hr fun a m => by rw [List.mem_singleton.mp m]; exact .head _) B' F'
 ·exact storeC B F r hl K
noncomputable def Hold (env : Env) (X : List Addr) (x : Str) : Prop := (env.kindOf x = some .local ∧ X = [env.locals]) ∨ (Sto env x ∧ X = fw env)
theorem storeH {X : List Addr} {A : Around} {w : Wd} {y : Value} {Q : Unit → Shared → Prop} {E : Value → Shared → Prop} (B : BSt C w H) (F : FSt C w env σ) (r : VRel w v y) (hk : Hold env X x)
  (K : ∀ w', Step X w w' → BSt C w' H → FSt C w' env ((x, v) :: σ) → Q () w'.s) : wpAny C.M A (storeName env x y) Q E w.s := by
 rcases hk with ⟨hl, rfl⟩ | ⟨hl, rfl⟩
 ·exact storeL B F r hl fun w' S q_ B' F' => K w' S B' F'
 ·exact store B F r hl K
end
end
section
noncomputable def Es (C : Ct) (n : Nat) (env : Env) (σ : Loc) (H : List HObj) (st : PySem.Stmt) (o : Out) : Prop :=
 ∀ (A : Around) (w : Wd) (Q : Flow → Shared → Prop) (E : Value → Shared → Prop), Room A n → BSt C w H → FSt C w env σ →
  (∀ w' f, Step (fw env) w w' → ORes C env w' o f → Q f w'.s) → wpAny C.M A (exec st env) Q E w.s
section
variable {C : Ct} {n : Nat} {env : Env} {σ σ' σ1 : Loc} {H H' H0 H1 H2 H3 : List HObj} {pos p pos' : Pos} {k : Nat} {x : Str} {v v1 v2 v3 : V} {e e1 e2 e3 : PySem.Expr} {o : Out} {st : PySem.Stmt} {rest body orelse : List PySem.Stmt}
theorem Ex.nil : Ex C n env σ H [] (.next σ H) := fun q_ w q_ q_ q_ B F K => wpAny_execs_nil (K w _ (Step.refl _ _) (.next B F))
theorem Ex.cons (h1 : Es C n env σ H st (.next σ1 H1)) (h2 : Ex C n env σ1 H1 rest o) : Ex C n env σ H (st :: rest) o := by
 intro A w Q E R B F K
 refine wpAny_execs_cons (h1 A w _ E R B F fun w1 f S1 O1 => ?_)
 obtain ⟨rfl, B1, F1⟩ := O1.inv
 exact h2 A w1 Q E R B1 F1 fun w2 f S2 O2 => K w2 f (S1.trans S2) O2
theorem Ex.stop (h1 : Es C n env σ H st o) (ho : ∀ σ H, o ≠ .next σ H) : Ex C n env σ H (st :: rest) o := by
 intro A w Q E R B F K
 refine wpAny_execs_cons (h1 A w _ E R B F fun w1 f S1 O1 => ?_)
 have q := K w1 f S1 O1
 cases O1 with
 | next B1 F1 => exact absurd rfl (ho _ _)
 | ret => exact q
 | brk => exact q
 | cont => exact q
theorem Ex.one (h1 : Es C n env σ H st o) : Ex C n env σ H [st] o := by
 intro A w Q E R B F K
 refine wpAny_execs_cons (h1 A w _ E R B F fun w1 f S1 O1 => ?_)
 have q := K w1 f S1 O1
 cases O1 with
 | next B1 F1 => exact wpAny_execs_nil q
 | ret => exact q
 | brk => exact q
 | cont => exact q
theorem FSt.swide {w w1 w2 : Wd} (F : FSt C w env σ) (S1 : Step [] w w1) (S2 : Step (fw env) w1 w2) : Step (fw env) w w2 := (F.wide S1).trans S2
theorem Es.assign (h : Ev C n env σ H e H1 v) (hk : Sto env x) (hs : swapsWith e (some (.Name x pos')) pos.line env = pure false) : Es C n env σ H (.Assign [.Name x pos'] e pos) (.next ((x, v) :: σ) H1) := by
 intro A w Q E R B F K
 refine wpAny_Assign_Name (h A w _ E R B F fun w1 y1 S1 B1 F1 r1 => ?_) hs
 exact store B1 F1 r1 hk fun w2 S2 B2 F2 => K w2 _ (F.swide S1 S2) (.next B2 F2)
theorem Es.ret (h : Ev C n env σ H e H1 v) : Es C n env σ H (.Return (some e) pos) (.ret v H1) := by
 intro A w Q E R B F K
 exact wpAny_Return_some (h A w _ E R B F fun w1 y1 S1 B1 F1 r1 => K w1 _ (F.wide S1) (.ret B1 r1))
theorem Es.expr (h : Ev C n env σ H e H1 v) (hi : interactive env = false) (hs : swapsWith e none pos.line env = pure false) : Es C n env σ H (.Expr e pos) (.next σ H1) := by
 intro A w Q E R B F K
 exact wpAny_Expr_any (h A w _ E R B F fun w1 y1 S1 B1 F1 r1 => K w1 _ (F.wide S1) (.next B1 F1)) hi hs
theorem Es.ifT (h : Tst C n env σ H e H1 true) (hb : Ex C n env σ H1 body o) : Es C n env σ H (.If e body orelse pos) o := by
 intro A w Q E R B F K
 refine wpAny_If (h A w _ E R B F fun w1 S1 B1 F1 => ?_)
 rw [if_pos rfl]
 exact hb A w1 Q E R B1 F1 fun w2 f S2 O2 => K w2 f (F.swide S1 S2) O2
theorem Es.ifF (h : Tst C n env σ H e H1 false) (hb : Ex C n env σ H1 orelse o) : Es C n env σ H (.If e body orelse pos) o := by
 intro A w Q E R B F K
 refine wpAny_If (h A w _ E R B F fun w1 S1 B1 F1 => ?_)
 rw [if_neg Bool.false_ne_true]
 exact hb A w1 Q E R B1 F1 fun w2 f S2 O2 => K w2 f (F.swide S1 S2) O2
noncomputable def Itm (C : Ct) (n : Nat) (slice : PySem.Expr) (a i : V) (H : List HObj) (v : V) : Prop :=
 ∀ (A : Around) (w : Wd) (Q E : Value → Shared → Prop) (x y : Value) (value : PySem.Expr), Room A n → BSt C w H → VRel w a x → VRel w i y →
  (∀ w' r, Step [] w w' → BSt C w' H → VRel w' v r → Q r w'.s) → wpAny C.M A (subscriptTail value slice x y) Q E w.s
theorem Ev.sub (h1 : Ev C n env σ H e1 H1 v1) (h2 : Ev C n env σ H1 e2 H2 v2) (ho : Itm C n e2 v1 v2 H2 v) : Ev C n env σ H (.Subscript e1 e2 pos) H2 v := by
 intro A w Q E R B F K
 refine Subscript_ (h1 A w _ E R B F fun w1 y1 S1 B1 F1 r1 => h2 A w1 _ E R B1 F1 fun w2 y2 S2 B2 F2 r2 => ?_)
 exact ho A w2 Q E y1 y2 e1 R B2 (r1.step0 S2) r2 fun w3 y S3 B3 r => K w3 y (S1.trans (S2.trans S3)) B3 (F2.step0 S3) r
noncomputable def Plain1 (slice : PySem.Expr) : Prop := ∀ o i, subscripted slice false o i = operate [o, i] (getItem o i)
theorem isTup_of {w : Wd} {a : Addr} {vs : List Value} {n : Nat} (e : w.h.get? a = some (tupObj vs n)) : IsTup w.h a vs.toArray := ⟨_, e, rfl, n, rfl⟩
theorem isList_of {w : Wd} {a : Addr} {vs : List Value} {n : Nat} (e : w.h.get? a = some (lstObj vs n)) : w.h.IsList a vs.toArray := ⟨_, e, rfl, n, rfl⟩
theorem Itm.tup {l : List V} {i : Int} {j : Nat} (hlo : -(2 ^ 63) ≤ i) (hhi : i < 2 ^ 63) (hj : seqIndex? i l.length = some j) (hx : l[j]? = some v) (hp : Plain1 e) : Itm C n e (.tup l) (.int i) H v := by
 intro A w Q E x y value R B rx ry K
 cases rx with
 | tup ho hn r =>
  obtain ⟨_, rfl⟩ := ry.inv
  obtain ⟨z, h1, h2⟩ := r.get hx
  exact item_tupleT (isTup_of ho) hlo hhi (by rw [r.length]; exact hj) h1 (K w z (Step.refl _ _) B h2) (hp _ _)
inductive Lsy (H : List HObj) : V → List V → Prop
 | lst {l} : Lsy H (.lst l) l
 | ref {i l} : H[i]? = some (.list l) → Lsy H (.ref i) l
theorem Lsy.at {w : Wd} {a : V} {l : List V} {x : Value} (B : BSt C w H) (h : Lsy H a l) (r : VRel w a x) : ∃ q vs m, x = .ref q ∧ w.h.get? q = some (lstObj vs m) ∧ VRels w l vs := by
 cases h with
 | lst => obtain ⟨_, _, _, rfl, e, _, r⟩ := r.inv; exact ⟨_, _, _, rfl, e, r⟩
 | ref h =>
  cases r with
  | ref e =>
   obtain ⟨a, vs, m, h1, h2, h3, _⟩ := B.get h
   obtain rfl := Option.some.inj (e.symm.trans h1)
   exact ⟨_, _, _, rfl, h2, h3⟩
theorem Itm.lst {a : V} {l : List V} {i : Int} (hl : Lsy H a l) (h0 : 0 ≤ i) (hhi : i < 2 ^ 63) (hx : l[i.toNat]? = some v) (hp : Plain1 e) : Itm C n e a (.int i) H v := by
 intro A w Q E x y value R B rx ry K
 obtain ⟨q, vs, m, rfl, ho, r⟩ := hl.at B rx
 obtain ⟨_, rfl⟩ := ry.inv
 obtain ⟨z, h1, h2⟩ := r.get hx
 exact tail_any (isList_of ho).typeIs slot_list_getitem.lookup (wpAny_getItem_list (isList_of ho) h0 hhi (by simpa using h1) (K w z (Step.refl _ _) B h2)) (hp _ _)
noncomputable def TopDict (C : Ct) (a : Addr) (es : Array DictEntry) : Prop := ∃ n, C.K.lookup a = some ⟨.type "dict", Option.none, .dict es n, #[]⟩ ∧ KeysLit C.w.params es.toList
theorem TopDict.map {a : Addr} {es : Array DictEntry} (h : TopDict C a es) {w : Wd} (B : BSt C w H) : w.h.MapOf (strKind C.prog C.w) a (fun k => findBy Value.isStrOf es k) := by
 obtain ⟨m, h1, h2⟩ := h
 exact mapOf_K B.X h1 h2
theorem Itm.dict {a : Addr} {es : Array DictEntry} {x : Str} {y : Value} (hd : TopDict C a es) (hf : findBy Value.isStrOf es x = some y) (hv : ∀ w, VRel w v y) (hp : Plain1 e) : Itm C n e (.val (.ref a)) (.str x) H v := by
 intro A w Q E x y value R B rx ry K
 obtain ⟨_, rfl⟩ := rx.inv; obtain ⟨_, rfl⟩ := ry.inv
 have hm := hd.map B
 exact tail_any hm.typeIs slot_dict_getitem.lookup (wpAny_getItem_of (strKind_is _ _ _ _) hm hf (K ⟨w.ρ, w.π, _⟩ _ Ext.toks.step (B.ext Ext.toks) (hv _))) (hp _ _)
theorem Bin.addInt {a b : Int} : Bin C n .Add (.int a) (.int b) H H (.int (a + b)) := by
 intro A w Q E x y R B rx ry K
 obtain ⟨_, rfl⟩ := rx.inv; obtain ⟨_, rfl⟩ := ry.inv
 exact P.add_int (K ⟨w.ρ, w.π, _⟩ _ Ext.toks.step (B.ext Ext.toks) (.int _ _))
end
end
section
section
variable {prog : Program} {w : World} {A : Around} {E : Value → Shared → Prop} {R : Result → Shared → Prop} {s : Shared}
noncomputable def ForGoal (prog : Program) (w : World) (A : Around) (R : Result → Shared → Prop) (target : PySem.Expr) (it : Value) (body orelse : List PySem.Stmt) (env : Env) (N : Shared → Prop) (s : Shared) : Prop :=
 wpAny (model prog w) A (pyNext it) (fun r s₁ => match r with
   | none => wpAny (model prog w) A (execs orelse env) (fun f s₃ => R (.ok f) s₃) (notedBy (model prog w) A env fun e s' => R (.error e) s') s₁
   | some v => wpAny (model prog w) A (letOwnedTupleGo target it v) (fun q_ s₁ => wpAny (model prog w) A (assign target env v) (fun q_ s₂ => wpAny (model prog w) A (execs body env) (fun f s₃ => match f with
     | .next | .cont => N s₃
     | .brk => R (.ok .next) s₃
     | .ret v => R (.ok (.ret v)) s₃) (notedBy (model prog w) A env fun e s' => R (.error e) s') s₂) (notedBy (model prog w) A env fun e s' => R (.error e) s') s₁) (notedBy (model prog w) A env fun e s' => R (.error e) s') s₁)
   (notedBy (model prog w) A env fun e s' => R (.error e) s') s
theorem codeAny_forLoopL {target it body orelse env} (I : Nat → Shared → Prop)
  (turn : ∀ n s, I n s → ForGoal prog w A R target it body orelse env (fun s => ∃ m, m < n ∧ I m s) s)
  (n : Nat) (h : I n s) : codeAny (model prog w) A (.forLoop target it body orelse env) R s := by
 refine codeAny_loop' rfl I (fun n s hI => ?_) n h
 show wpAny _ _ ((forTurn target it body orelse env).onRaise (fun x => do noteFrame x env; theTreesLotGoes x)) _ _ s
 refine wpAny_noted ?_
 simp only [forTurn]
 refine wpAny_bind (wpAny_standAt (wpAny_bind (wpAny_onRaise (wpAny_mono (turn n s hI) (fun r s₁ h₁ => ?_) fun q_ q_ h' => wpAny_standAt h'))))
 cases r with
 | none => exact wpAny_pure (.inr ⟨rfl, codeAny_block h₁⟩)
 | some v =>
  refine wpAny_bind (wpAny_mono h₁ (fun q_ s₁ h₁ => ?_) fun q_ q_ h' => h')
  refine wpAny_bind (wpAny_mono h₁ (fun q_ s₂ h₂ => wpAny_bind (wpAny_mono h₂ (fun f s₃ h₃ => ?_) fun q_ q_ h' => h')) fun q_ q_ h' => h')
  cases f with
  | next => exact wpAny_pure (.inl ⟨rfl, h₃⟩)
  | cont => exact wpAny_pure (.inl ⟨rfl, h₃⟩)
  | brk => exact wpAny_pure h₃
  | ret v => exact wpAny_pure h₃
noncomputable def WhGoal (prog : Program) (w : World) (A : Around) (R : Result → Shared → Prop) (test : PySem.Expr) (body orelse : List PySem.Stmt) (env : Env) (N : Shared → Prop) (s : Shared) : Prop :=
 wpAny (model prog w) A (isTrue test env (eval test env)) (fun b s₂ =>
    if b then wpAny (model prog w) A (execs body env) (fun f s₃ => match f with
      | .next | .cont => N s₃
      | .brk => R (.ok .next) s₃
      | .ret v => R (.ok (.ret v)) s₃) (notedBy (model prog w) A env fun e s' => R (.error e) s') s₂
    else wpAny (model prog w) A (execs orelse env) (fun f s₃ => R (.ok f) s₃) (notedBy (model prog w) A env fun e s' => R (.error e) s') s₂)
    (notedBy (model prog w) A env fun e s' => R (.error e) s') s
theorem codeAny_whileLoopL {test body orelse env} (I : Nat → Shared → Prop) (turn : ∀ n s, I n s → WhGoal prog w A R test body orelse env (fun s => ∃ m, m < n ∧ I m s) s) (n : Nat) (h : I n s) : codeAny (model prog w) A (.whileLoop test body orelse env) R s :=
 codeAny_whileLoop I turn n h
end
inductive WhC (C : Ct) (n : Nat) (env : Env) (test : PySem.Expr) (body : List PySem.Stmt) (W : Loc → List HObj → Out → Prop) (σ : Loc) (H : List HObj) (o : Out) : Prop
 | stop (σ' : Loc) (H1 : List HObj) : (∀ x v, σ'.lookup x = some v → σ.lookup x = some v) → Tst C n env σ' H test H1 false → o = .next σ' H1 → WhC C n env test body W σ H o
 | turn (σ' : Loc) (H1 : List HObj) (σ1 : Loc) (H2 : List HObj) : (∀ x v, σ'.lookup x = some v → σ.lookup x = some v) → Tst C n env σ' H test H1 true → Ex C n env σ' H1 body (.next σ1 H2) → W σ1 H2 o → WhC C n env test body W σ H o
noncomputable def Wh (C : Ct) (n : Nat) (env : Env) (test : PySem.Expr) (body : List PySem.Stmt) (k : Nat) : Loc → List HObj → Out → Prop :=
 Nat.rec (motive := fun q_ => Loc → List HObj → Out → Prop) (WhC C n env test body fun q_ q_ q_ => False) (fun q_ W => WhC C n env test body W) k
section
variable {C : Ct} {n : Nat} {env : Env} {test : PySem.Expr} {body : List PySem.Stmt} {k : Nat} {σ σ' σ1 : Loc} {H H1 H2 : List HObj} {o : Out} {W : Loc → List HObj → Out → Prop}
theorem Wh.stop (h : Tst C n env σ H test H1 false) : Wh C n env test body k σ H (.next σ H1) := by
 cases k <;> exact .stop σ H1 (fun q_ q_ z => z) h rfl
theorem Wh.turn (h : Tst C n env σ H test H1 true) (hb : Ex C n env σ H1 body (.next σ1 H2)) (hr : Wh C n env test body k σ1 H2 o) : Wh C n env test body (k + 1) σ H o :=
 WhC.turn σ H1 σ1 H2 (fun q_ q_ z => z) h hb hr
theorem WhC.weak (h : ∀ x v, σ'.lookup x = some v → σ.lookup x = some v) (hr : WhC C n env test body W σ' H o) : WhC C n env test body W σ H o := by
 cases hr with
 | stop τ H1 a b c => exact .stop τ H1 (fun x v z => h x v (a x v z)) b c
 | turn τ H1 σ1 H2 a b c d => exact .turn τ H1 σ1 H2 (fun x v z => h x v (a x v z)) b c d
theorem Wh.weak (h : ∀ x v, σ'.lookup x = some v → σ.lookup x = some v) (hr : Wh C n env test body k σ' H o) : Wh C n env test body k σ H o := by
 cases k <;> exact WhC.weak h hr
end
structure NextOk (C : Ct) (n : Nat) (Ok : List HObj → Prop) (T : PySem.Expr → Bool) (it : Value) (X : List Addr) (l : List V) (P : Nat → Wd → Prop) (P' : Nat → Value → Wd → Prop) : Prop where
 self : ∀ A w Q E, Room A n → P 0 w → Q it w.s → wpAny C.M A (pyIter it) Q E w.s
 fld : ∀ i w, P i w → ∀ a ∈ X, ∃ o vs T, w.h.get? a = some o ∧ o.data = .fields vs ∧ o.cls = .type T ∧ T ∈ iterCls
 fld' : ∀ i y w, P' i y w → ∀ a ∈ X, ∃ o vs T, w.h.get? a = some o ∧ o.data = .fields vs ∧ o.cls = .type T ∧ T ∈ iterCls
 mono : ∀ i w w' Y, P i w → Step Y w w' → NonSeq w Y → (∀ a ∈ X, a ∉ Y) → (∀ a ∈ X, a ∉ w.ρ) → P i w'
 item : ∀ i v A w H Q E, l[i]? = some v → Room A n → BSt C w H → Ok H → P i w → NonSeq w X → (∀ w' y, Step X w w' → w'.ρ = w.ρ → (∀ a o, w.h.get? a = some o → a ∉ X → w'.h.get? a = some o) → P' (i + 1) y w' → VRel w' v y → Q (some y) w'.s) → wpAny C.M A (pyNext it) Q E w.s
 fin : ∀ A w H Q E, Room A n → BSt C w H → Ok H → P l.length w → NonSeq w X → (∀ w', Step X w w' → w'.ρ = w.ρ → (∀ a o, w.h.get? a = some o → a ∉ X → w'.h.get? a = some o) → Q none w'.s) → wpAny C.M A (pyNext it) Q E w.s
 own : ∀ i A w H target v y Q E, T target = true → l[i]? = some v → P' (i + 1) y w → NonSeq w X → BSt C w H → VRel w v y → (∀ w', Step X w w' → w'.ρ = w.ρ → (∀ a o, w.h.get? a = some o → a ∉ X → w'.h.get? a = some o) → P (i + 1) w' → Q () w'.s) → wpAny C.M A (letOwnedTupleGo target it y) Q E w.s
structure NextB (C : Ct) (n : Nat) (Ok : List HObj → Prop) (T : PySem.Expr → Bool) (it : Value) (X : List Addr) (l : List V) (P : Nat → Wd → Prop) (P' : Nat → Value → Wd → Prop) : Prop where
 self : ∀ A w Q E, Room A n → P 0 w → Q it w.s → wpAny C.M A (pyIter it) Q E w.s
 fld : ∀ i w, P i w → ∀ a ∈ X, ∃ o vs T, w.h.get? a = some o ∧ o.data = .fields vs ∧ o.cls = .type T ∧ T ∈ iterCls
 fld' : ∀ i y w, P' i y w → ∀ a ∈ X, ∃ o vs T, w.h.get? a = some o ∧ o.data = .fields vs ∧ o.cls = .type T ∧ T ∈ iterCls
 mono : ∀ i w w' Y, P i w → Step Y w w' → NonSeq w Y → (∀ a ∈ X, a ∉ Y) → (∀ a ∈ X, a ∉ w.ρ) → P i w'
 item : ∀ i v A w H Q E, l[i]? = some v → Room A n → BSt C w H → Ok H → P i w → NonSeq w X → (∀ a ∈ X, C.h₀.get? a = none) → (∀ w' y, Step X w w' → w'.ρ = w.ρ → BSt C w' H → P' (i + 1) y w' → VRel w' v y → Q (some y) w'.s) → wpAny C.M A (pyNext it) Q E w.s
 fin : ∀ A w H Q E, Room A n → BSt C w H → Ok H → P l.length w → NonSeq w X → (∀ a ∈ X, C.h₀.get? a = none) → (∀ w', Step X w w' → w'.ρ = w.ρ → BSt C w' H → Q none w'.s) → wpAny C.M A (pyNext it) Q E w.s
 own : ∀ i A w H target v y Q E, T target = true → l[i]? = some v → P' (i + 1) y w → NonSeq w X → BSt C w H → VRel w v y → (∀ a ∈ X, C.h₀.get? a = none) → (∀ w', Step X w w' → w'.ρ = w.ρ → BSt C w' H → P (i + 1) w' → Q () w'.s) → wpAny C.M A (letOwnedTupleGo target it y) Q E w.s
theorem BSt.apart {C : Ct} {X : List Addr} {w : Wd} {H : List HObj} (h : ∀ a ∈ X, ∃ o vs T, w.h.get? a = some o ∧ o.data = .fields vs ∧ o.cls = .type T ∧ T ∈ iterCls) (B : BSt C w H) : ∀ a ∈ X, a ∉ w.ρ := fun a m q => by
 obtain ⟨o, vs, T, ho, hd, hc, hT⟩ := h a m
 obtain ⟨j, hj⟩ := List.getElem?_of_mem q
 have hl : j < H.length := by rw [← B.len]; exact (List.getElem?_eq_some_iff.mp hj).1
 exact (B.obj j a _ hj (List.getElem?_eq_getElem hl)).hard ho hd hc hT
theorem NextOk.b {C : Ct} {n : Nat} {Ok : List HObj → Prop} {T : PySem.Expr → Bool} {it : Value} {X : List Addr} {l : List V} {P : Nat → Wd → Prop} {P' : Nat → Value → Wd → Prop} (N : NextOk C n Ok T it X l P P') : NextB C n Ok T it X l P P' where
 self := N.self
 fld := N.fld
 fld' := N.fld'
 mono := N.mono
 item i v A w H Q E hl R B ok p hX hn K := N.item i v A w H Q E hl R B ok p hX fun w' y S hr ht => K w' y S hr (B.turn hX S hr (fun a o e m => nomatch (hn a m).symm.trans e) fun a m o e => ht a o e fun z => B.apart (N.fld i w p) a z m)
 fin A w H Q E R B ok p hX hn K := N.fin A w H Q E R B ok p hX fun w' S hr ht => K w' S hr (B.turn hX S hr (fun a o e m => nomatch (hn a m).symm.trans e) fun a m o e => ht a o e fun z => B.apart (N.fld _ w p) a z m)
 own i A w H target v y Q E hT hl p hX B r hn K := N.own i A w H target v y Q E hT hl p hX B r fun w' S hr ht => K w' S hr (B.turn hX S hr (fun a o e m => nomatch (hn a m).symm.trans e) fun a m o e => ht a o e fun z => B.apart (N.fld' _ y w p) a z m)
noncomputable def Src (C : Ct) (n : Nat) (x : V) (H : List HObj) (Ok : List HObj → Prop) (l : List V) : Prop :=
 ∀ (A : Around) (w : Wd) (y : Value) (Q E : Value → Shared → Prop), Room A n → BSt C w H → VRel w x y →
  (∀ w' it X P P', Step [] w w' → BSt C w' H → (∀ a ∈ X, w.h.get? a = none) → NextB C n Ok (fun q_ => true) it X l P P' → P 0 w' → Q it w'.s) → wpAny C.M A (pyIter y) Q E w.s
noncomputable def SrcE (C : Ct) (n : Nat) (env : Env) (σ : Loc) (H : List HObj) (iter : PySem.Expr) (H1 : List HObj) (Ok : List HObj → Prop) (T : PySem.Expr → Bool) (l : List V) : Prop :=
 ∀ (A : Around) (w : Wd) (Q E : Value → Shared → Prop), Room A n → BSt C w H → FSt C w env σ →
  (∀ w1 w' it X P P' H0, Step [] w w1 → BSt C w1 H0 → FSt C w1 env σ → Step [] w1 w' → BSt C w' H1 → (∀ a ∈ X, w1.h.get? a = none) → NextB C n Ok T it X l P P' → P 0 w' → Q it w'.s) →
   wpAny C.M A (eval iter env) (fun y s => wpAny C.M A (pyIter y) Q E s) E w.s
theorem SrcE.of {C : Ct} {n : Nat} {env : Env} {σ : Loc} {H : List HObj} {iter : PySem.Expr} {H1 : List HObj} {Ok : List HObj → Prop} {l : List V} {v : V} (he : Ev C n env σ H iter H1 v) (hs : Src C n v H1 Ok l) : SrcE C n env σ H iter H1 Ok (fun q_ => true) l := by
 intro A w Q E R B F K
 exact he A w _ E R B F fun w1 y1 S1 B1 F1 r1 => hs A w1 y1 _ E R B1 r1 fun w2 it X P P' S2 B2 hX N p2 => K w1 w2 it X P P' H1 S1 B1 F1 S2 B2 hX N p2
noncomputable def Ast (C : Ct) (n : Nat) (env : Env) (X : List Addr) (t : PySem.Expr) (v : V) (σ : Loc) (H : List HObj) (σ' : Loc) : Prop :=
 ∀ (A : Around) (w : Wd) (y : Value) (Q : Unit → Shared → Prop) (E : Value → Shared → Prop), Room A n → BSt C w H → FSt C w env σ → VRel w v y →
  (∀ w', Step X w w' → BSt C w' H → FSt C w' env σ' → Q () w'.s) → wpAny C.M A (assign t env y) Q E w.s
noncomputable abbrev As (C : Ct) (n : Nat) (env : Env) (t : PySem.Expr) (v : V) (σ : Loc) (H : List HObj) (σ' : Loc) : Prop := Ast C n env (fw env) t v σ H σ'
inductive FoC (C : Ct) (n : Nat) (A : Around) (env : Env) (target : PySem.Expr) (body : List PySem.Stmt) (Ok : List HObj → Prop) (v : V) (W : Loc → List HObj → Out → Prop) (σ : Loc) (H : List HObj) (o : Out) : Prop
 | go (σ' σ0 σ1 : Loc) (H1 : List HObj) : (∀ x v, σ'.lookup x = some v → σ.lookup x = some v) → Ok H → As C n env target v σ' H σ0 → ExA C n A env σ0 H body (.next σ1 H1) → W σ1 H1 o → FoC C n A env target body Ok v W σ H o
 | ret (σ' σ0 : Loc) (u : V) (H1 : List HObj) : (∀ x v, σ'.lookup x = some v → σ.lookup x = some v) → Ok H → As C n env target v σ' H σ0 → ExA C n A env σ0 H body (.ret u H1) → o = .ret u H1 → FoC C n A env target body Ok v W σ H o
noncomputable def FoA (C : Ct) (n : Nat) (A : Around) (env : Env) (target : PySem.Expr) (body : List PySem.Stmt) (Ok : List HObj → Prop) (l : List V) : Loc → List HObj → Out → Prop :=
 List.rec (motive := fun q_ => Loc → List HObj → Out → Prop) (fun σ H o => ∃ σ', (∀ x v, σ'.lookup x = some v → σ.lookup x = some v) ∧ Ok H ∧ o = .next σ' H) (fun v q_ W => FoC C n A env target body Ok v W) l
noncomputable def Fo (C : Ct) (n : Nat) (env : Env) (target : PySem.Expr) (body : List PySem.Stmt) (Ok : List HObj → Prop) (l : List V) (σ : Loc) (H : List HObj) (o : Out) : Prop := ∀ A, FoA C n A env target body Ok l σ H o
section
variable {C : Ct} {n : Nat} {env : Env} {target : PySem.Expr} {body : List PySem.Stmt} {Ok : List HObj → Prop} {l : List V} {σ σ' σ0 σ1 : Loc} {H H1 : List HObj} {o : Out} {v u : V}
theorem FoA.nil {A : Around} (h : Ok H) : FoA C n A env target body Ok [] σ H (.next σ H) := ⟨σ, fun q_ q_ z => z, h, rfl⟩
theorem FoA.cons {A : Around} (a : Ok H) (b : As C n env target v σ H σ0) (c : ExA C n A env σ0 H body (.next σ1 H1)) (d : FoA C n A env target body Ok l σ1 H1 o) : FoA C n A env target body Ok (v :: l) σ H o :=
 FoC.go σ σ0 σ1 H1 (fun q_ q_ z => z) a b c d
theorem Fo.nil (h : Ok H) : Fo C n env target body Ok [] σ H (.next σ H) := fun q_ => .nil h
theorem Fo.cons (a : Ok H) (b : As C n env target v σ H σ0) (c : Ex C n env σ0 H body (.next σ1 H1)) (d : Fo C n env target body Ok l σ1 H1 o) : Fo C n env target body Ok (v :: l) σ H o := fun A => .cons a b c.at (d A)
theorem Fo.ret (a : Ok H) (b : As C n env target v σ H σ0) (c : Ex C n env σ0 H body (.ret u H1)) : Fo C n env target body Ok (v :: l) σ H (.ret u H1) := fun q_ => .ret σ σ0 u H1 (fun q_ q_ z => z) a b c.at rfl
theorem FoA.nilv {A : Around} (h : FoA C n A env target body Ok [] σ H o) : ∃ σ', (∀ x v, σ'.lookup x = some v → σ.lookup x = some v) ∧ Ok H ∧ o = .next σ' H := h
theorem FoA.uncons {A : Around} (h : FoA C n A env target body Ok (v :: l) σ H o) : FoC C n A env target body Ok v (FoA C n A env target body Ok l) σ H o := h
theorem FoC.weak {A : Around} {W : Loc → List HObj → Out → Prop} (a : ∀ x v, σ'.lookup x = some v → σ.lookup x = some v) (h : FoC C n A env target body Ok v W σ' H o) : FoC C n A env target body Ok v W σ H o := by
 cases h with
 | go τ σ0 σ1 H1 b c d e f => exact .go τ σ0 σ1 H1 (fun x v z => a x v (b x v z)) c d e f
 | ret τ σ0 u H1 b c d e f => exact .ret τ σ0 u H1 (fun x v z => a x v (b x v z)) c d e f
theorem Fo.weak (a : ∀ x v, σ'.lookup x = some v → σ.lookup x = some v) (h : Fo C n env target body Ok l σ' H o) : Fo C n env target body Ok l σ H o := fun A => by
 have h := h A
 cases l with
 | nil =>
  obtain ⟨τ, c, d⟩ := h.nilv
  exact ⟨τ, fun x v z => a x v (c x v z), d⟩
 | cons v l => exact FoC.weak a h.uncons
end
section
variable {C : Ct} {n : Nat} {env : Env} {σ σ' σ1 : Loc} {H H' H0 H1 H2 H3 : List HObj} {pos p pos' : Pos} {k : Nat} {x : Str} {v v1 v2 v3 : V} {e e1 e2 e3 : PySem.Expr} {o : Out} {st : PySem.Stmt} {rest body orelse : List PySem.Stmt}
theorem while_go {test : PySem.Expr} {A : Around} {R' : Result → Shared → Prop} {Nx : Shared → Prop} {w w1 : Wd} (R : Room A n) (K : ∀ w' f, Step (fw env) w w' → ORes C env w' o f → R' (.ok f) w'.s) (S1 : Step (fw env) w w1) (B1 : BSt C w1 H) (F1 : FSt C w1 env σ)
  (h : Wh C n env test body k σ H o) (hN : ∀ j w' σ' H', j < k → Step (fw env) w w' → BSt C w' H' → FSt C w' env σ' → Wh C n env test body j σ' H' o → Nx w'.s) : WhGoal C.prog C.w A R' test body [] env Nx w1.s := by
 cases k with
 | zero =>
  cases (show WhC C n env test body (fun q_ q_ q_ => False) σ H o from h) with
  | turn _ _ _ _ _ _ _ z => exact z.elim
  | stop τ H2 a ht ho =>
  subst ho
  exact ht A w1 _ _ R B1 (F1.weak a) fun w2 S2 B2 F2 => wpAny_execs_nil (K w2 _ (S1.trans (F1.wide S2)) (.next B2 F2))
 | succ j =>
  cases (show WhC C n env test body (Wh C n env test body j) σ H o from h) with
  | stop τ H2 a ht ho =>
   subst ho
   exact ht A w1 _ _ R B1 (F1.weak a) fun w2 S2 B2 F2 => wpAny_execs_nil (K w2 _ (S1.trans (F1.wide S2)) (.next B2 F2))
  | turn τ H2 σ2 H3 a ht hb hr =>
   exact ht A w1 _ _ R B1 (F1.weak a) fun w2 S2 B2 F2 => hb A w2 _ _ R B2 F2 fun w3 f S3 O3 => by
    obtain ⟨rfl, B3, F3⟩ := O3.inv
    exact hN j w3 _ _ (Nat.lt_succ_self j) ((S1.trans (F1.wide S2)).trans S3) B3 F3 hr
inductive WhI (C : Ct) (n : Nat) (env : Env) (test : PySem.Expr) (body : List PySem.Stmt) (o : Out) (w : Wd) (j : Nat) (s : Shared) : Prop
 | mk (w' : Wd) (σ' : Loc) (H' : List HObj) : s = w'.s → Step (fw env) w w' → BSt C w' H' → FSt C w' env σ' → Wh C n env test body j σ' H' o → WhI C n env test body o w j s
theorem Es.while {test : PySem.Expr} (h : Wh C n env test body k σ H o) : Es C n env σ H (.While test body [] pos) o := by
 intro A w Q E R B F K
 refine wpAny_While (codeAny_whileLoopL (WhI C n env test body o w) (fun j s I => ?_) k ⟨w, σ, H, rfl, Step.refl _ _, B, F, h⟩)
 obtain ⟨w1, σ1, H1, rfl, S1, B1, F1, h1⟩ := I
 exact while_go R K S1 B1 F1 h1 fun j' w' σ' H' lt a b c d => ⟨j', lt, w', σ', H', rfl, a, b, c, d⟩
theorem Ast.name {X : List Addr} (hk : Hold env X x) : Ast C n env X (.Name x pos) v σ H ((x, v) :: σ) := by
 intro A w y Q E R B F r K
 exact wpAny_assign_Name (storeH B F r hk K)
theorem apart_of {X : List Addr} {w : Wd} (h : ∀ a ∈ X, ∃ o vs T, w.h.get? a = some o ∧ o.data = .fields vs ∧ o.cls = .type T ∧ T ∈ iterCls) (B : BSt C w H) (F : FSt C w env σ) (hπ : ∀ a ∈ X, a ∉ w.π) : (∀ a ∈ X, a ∉ fr env) ∧ (∀ a ∈ X, a ∉ w.ρ) ∧ NonSeq w X := by
 refine ⟨fun a m q => ?_, fun a m q => ?_, fun a m => ⟨hπ a m, fun o e => ?_⟩⟩
 ·obtain ⟨o, vs, T, ho, hd, _⟩ := h a m
  rcases List.mem_cons.mp q with rfl | q
  ·obtain ⟨_, ⟨o', _, _, ho', hd', _⟩, _⟩ := F.ns
   obtain rfl := Option.some.inj (ho.symm.trans ho'); exact nomatch hd.symm.trans hd'
  ·obtain ⟨c, hc, rfl⟩ := List.mem_map.mp q
   obtain ⟨_, v₀, o', ho', hd'⟩ := F.cells c hc
   obtain rfl := Option.some.inj (ho.symm.trans ho'); exact nomatch hd.symm.trans hd'
 ·obtain ⟨o, vs, T, ho, hd, hc, hT⟩ := h a m
  obtain ⟨j, hj⟩ := List.getElem?_of_mem q
  have hl : j < H.length := by rw [← B.len]; exact (List.getElem?_eq_some_iff.mp hj).1
  exact (B.obj j a _ hj (List.getElem?_eq_getElem hl)).hard ho hd hc hT
 ·obtain ⟨o', vs, T, ho, hd, hc, hT⟩ := h a m
  obtain rfl := Option.some.inj (e.symm.trans ho); exact .inr (.inr ⟨_, _, hd, hc, hT⟩)
theorem NextB.apart {Ok : List HObj → Prop} {T : PySem.Expr → Bool} {it : Value} {X : List Addr} {l : List V} {P : Nat → Wd → Prop} {P' : Nat → Value → Wd → Prop} (N : NextB C n Ok T it X l P P') {i : Nat} {w : Wd} (p : P i w) (B : BSt C w H) (F : FSt C w env σ) (hπ : ∀ a ∈ X, a ∉ w.π) :
  (∀ a ∈ X, a ∉ fr env) ∧ (∀ a ∈ X, a ∉ w.ρ) ∧ NonSeq w X := apart_of (N.fld i w p) B F hπ
theorem NextB.apart' {Ok : List HObj → Prop} {T : PySem.Expr → Bool} {it : Value} {X : List Addr} {l : List V} {P : Nat → Wd → Prop} {P' : Nat → Value → Wd → Prop} (N : NextB C n Ok T it X l P P') {i : Nat} {w : Wd} {y : Value} (p : P' i y w) (B : BSt C w H) (F : FSt C w env σ) (hπ : ∀ a ∈ X, a ∉ w.π) :
  (∀ a ∈ X, a ∉ fr env) ∧ (∀ a ∈ X, a ∉ w.ρ) ∧ NonSeq w X := apart_of (N.fld' i y w p) B F hπ
theorem Step.mix {X Y : List Addr} {w0 w1 w2 : Wd} (S1 : Step Y w0 w1) (S2 : Step X w1 w2) (hr : w2.ρ = w1.ρ) (hX : ∀ a ∈ X, w0.h.get? a = Option.none) : Step Y w0 w2 := by
 obtain ⟨δ, h1, n1⟩ := S1.rho
 have nx : ∀ q o, w0.h.get? q = some o → q ∉ X := fun q o e z => by rw [hX q z] at e; cases e
 refine ⟨⟨δ, hr.trans h1, n1⟩, fun q o e nq m => S2.keep q o (S1.keep q o e nq m) (S1.notin e nq) (nx q o e), fun q o e m => ?_, S2.gens.trans S1.gens, S2.os.trans S1.os, S2.pin.trans S1.pin, Nat.le_trans S1.tk S2.tk⟩
 obtain ⟨o', e'⟩ := S1.live q o e m
 exact S2.live q o' e' (nx q o e)
theorem drop_cons {α : Type} {l l' : List α} {i : Nat} {v : α} (h : l.drop i = v :: l') : l[i]? = some v ∧ l.drop (i + 1) = l' := by
 refine ⟨?_, ?_⟩
 ·rw [← List.head?_drop, h]; rfl
 ·rw [← List.tail_drop, h]; rfl
theorem NextB.on {Ok : List HObj → Prop} {T : PySem.Expr → Bool} {it : Value} {X : List Addr} {l : List V} {P : Nat → Wd → Prop} {P' : Nat → Value → Wd → Prop} (N : NextB C n Ok T it X l P P') {i : Nat} {w w' : Wd} (p : P i w) (B : BSt C w H) (F : FSt C w env σ) (hπ : ∀ a ∈ X, a ∉ w.π) (S : Step (fw env) w w') : P i w' :=
 N.mono i w w' (fw env) p S F.nonSeq (fun a m q => (N.apart p B F hπ).1 a m (fw_fr q)) (N.apart p B F hπ).2.1
structure ForAt (C : Ct) (env : Env) (Y X : List Addr) (w w1 w' : Wd) (H' : List HObj) (σ' : Loc) : Prop where
 new : ∀ a ∈ X, w1.h.get? a = Option.none
 stays : C.h₀.StaysIn w1.h
 pins : ∀ a ∈ w1.π, ∃ o, w1.h.get? a = some o
 S1 : Step [] w w1
 S0 : Step Y w w'
 S : Step Y w1 w'
 B : BSt C w' H'
 F : FSt C w' env σ'
theorem ForAt.pi {Y X : List Addr} {w w1 w' : Wd} (h : ForAt C env Y X w w1 w' H σ) : ∀ a ∈ X, a ∉ w'.π := fun a m q => by
 rw [h.S.pin] at q
 obtain ⟨o, e⟩ := h.pins a q
 rw [h.new a m] at e; cases e
theorem ForAt.back {Y X : List Addr} {w w1 w4 w5 : Wd} (h : ForAt C env Y X w w1 w4 H σ) (f4 : ∀ a ∈ X, ∃ o vs T, w4.h.get? a = some o ∧ o.data = .fields vs ∧ o.cls = .type T ∧ T ∈ iterCls) (S : Step X w4 w5) (hr : w5.ρ = w4.ρ) (hB : BSt C w5 H) : ForAt C env Y X w w1 w5 H σ := by
 have a := apart_of f4 h.B h.F h.pi
 refine ⟨h.new, h.stays, h.pins, h.S1, h.S0.mix S hr fun a m => ?_, h.S.mix S hr h.new, hB, h.F.step a.2.2 (fun q m z => a.1 q z m) S⟩
 cases e : w.h.get? a with
 | none => rfl
 | some o =>
  obtain ⟨o', e'⟩ := h.S1.live a o e fun z => nomatch z
  rw [h.new a m] at e'; cases e'
theorem ForAt.low {Y X : List Addr} {w w1 w' : Wd} (h : ForAt C env Y X w w1 w' H σ) : ∀ a ∈ X, C.h₀.get? a = Option.none := fun a m => by
 cases e : C.h₀.get? a with
 | none => rfl
 | some o => exact nomatch (h.new a m).symm.trans (h.stays a o e)
theorem ForAt.go {Y X : List Addr} {w w1 w4 w5 : Wd} (h : ForAt C env Y X w w1 w4 H σ) (S : Step Y w4 w5) (B : BSt C w5 H1) (F : FSt C w5 env σ1) : ForAt C env Y X w w1 w5 H1 σ1 := ⟨h.new, h.stays, h.pins, h.S1, h.S0.trans S, h.S.trans S, B, F⟩
theorem turn_own {A : Around} {target : PySem.Expr} {Ok : List HObj → Prop} {T : PySem.Expr → Bool} {it : Value} {Y X : List Addr} {l l' : List V} {P : Nat → Wd → Prop} {P' : Nat → Value → Wd → Prop} {i : Nat} {w w1 w3 : Wd} {Qa : Value → Shared → Prop} {E : Value → Shared → Prop} {Qn : Option Value → Shared → Prop}
  (N : NextB C n Ok T it X l P P') (h : ForAt C env Y X w w1 w3 H σ) (R : Room A n) (hT : T target = true) (hl : l.drop i = v :: l') (ok : Ok H) (p3 : P i w3)
  (hb : ∀ w5 y, ForAt C env Y X w w1 w5 H σ → P (i + 1) w5 → VRel w5 v y → w5.ρ = w3.ρ → l.drop (i + 1) = l' → i + 1 ≤ l.length → Qa y w5.s)
  (hQ : ∀ y s, wpAny C.M A (letOwnedTupleGo target it y) (fun q_ s₁ => Qa y s₁) E s → Qn (some y) s) : wpAny C.M A (pyNext it) Qn E w3.s := by
 obtain ⟨hget, hdrop⟩ := drop_cons hl
 refine N.item i _ A w3 _ _ _ hget R h.B ok p3 (N.apart p3 h.B h.F h.pi).2.2 h.low fun w4 y S34 hr ht p4 r4 => hQ y _ ?_
 have h4 := h.back (N.fld _ _ p3) S34 hr ht
 have a3 := (N.apart' p4 h4.B h4.F h4.pi).2.2
 exact N.own i A w4 _ target _ y _ _ hT hget p4 a3 h4.B r4 h4.low fun w5 S45 hr5 ht p5 => hb w5 y (h4.back (N.fld' _ _ _ p4) S45 hr5 ht) p5 (r4.step a3 S45) (hr5.trans hr) hdrop (List.getElem?_eq_some_iff.mp hget).1
theorem for_turn {A : Around} {target : PySem.Expr} {Ok : List HObj → Prop} {T : PySem.Expr → Bool} {it : Value} {X : List Addr} {l l' : List V} {P : Nat → Wd → Prop} {P' : Nat → Value → Wd → Prop} {i : Nat} {σ0 : Loc} {w w1 w3 : Wd} {Qf : Flow → Shared → Prop} {E : Value → Shared → Prop} {Qn : Option Value → Shared → Prop}
  (N : NextB C n Ok T it X l P P') (h : ForAt C env (fw env) X w w1 w3 H σ) (R : Room A n) (hT : T target = true) (hl : l.drop i = v :: l') (ok : Ok H) (ha : As C n env target v σ H σ0) (p3 : P i w3)
  (hb : ∀ w6, ForAt C env (fw env) X w w1 w6 H σ0 → P (i + 1) w6 → l.drop (i + 1) = l' → i + 1 ≤ l.length → wpAny C.M A (execs body env) Qf E w6.s)
  (hQ : ∀ y s, wpAny C.M A (letOwnedTupleGo target it y) (fun q_ s₁ => wpAny C.M A (assign target env y) (fun q_ s₂ => wpAny C.M A (execs body env) Qf E s₂) E s₁) E s → Qn (some y) s) : wpAny C.M A (pyNext it) Qn E w3.s :=
 turn_own N h R hT hl ok p3 (fun w5 y h5 p5 r5 q_ hdrop hi => ha A w5 y _ _ R h5.B h5.F r5 fun w6 S56 B6 F6 => hb w6 (h5.go S56 B6 F6) (N.on p5 h5.B h5.F h5.pi S56) hdrop hi) hQ
inductive ForI (C : Ct) (n : Nat) (A : Around) (env : Env) (target : PySem.Expr) (body : List PySem.Stmt) (Ok : List HObj → Prop) (X : List Addr) (l : List V) (P : Nat → Wd → Prop) (w w1 : Wd) (o : Out) (j : Nat) (s' : Shared) : Prop
 | mk (w' : Wd) (σ' : Loc) (H' : List HObj) (i : Nat) : s' = w'.s → ForAt C env (fw env) X w w1 w' H' σ' → P i w' → i ≤ l.length → j = (l.drop i).length → FoA C n A env target body Ok (l.drop i) σ' H' o → ForI C n A env target body Ok X l P w w1 o j s'
theorem drop_lt {α : Type} {l : List α} {i : Nat} (h : i + 1 ≤ l.length) : (l.drop (i + 1)).length < (l.drop i).length := by rw [List.length_drop, List.length_drop]; exact Nat.sub_lt_sub_left h (Nat.lt_succ_self i)
theorem ForAt.weak {Y X : List Addr} {w w1 w4 : Wd} (h : ForAt C env Y X w w1 w4 H σ) (hs : ∀ x v, σ'.lookup x = some v → σ.lookup x = some v) : ForAt C env Y X w w1 w4 H σ' := ⟨h.new, h.stays, h.pins, h.S1, h.S0, h.S, h.B, h.F.weak hs⟩
theorem for_go {A : Around} {target : PySem.Expr} {Ok : List HObj → Prop} {T : PySem.Expr → Bool} {it : Value} {X : List Addr} {L l : List V} {P : Nat → Wd → Prop} {P' : Nat → Value → Wd → Prop} {w w1 w3 : Wd} {R' : Result → Shared → Prop} {Nx : Shared → Prop} {i : Nat}
  (N : NextB C n Ok T it X L P P') (R : Room A n) (hT : T target = true) (K : ∀ w' f, Step (fw env) w w' → ORes C env w' o f → R' (.ok f) w'.s) (h3 : ForAt C env (fw env) X w w1 w3 H σ) (p3 : P i w3) (hi : i ≤ L.length) (hl : L.drop i = l)
  (hf : FoA C n A env target body Ok l σ H o) (hN : ∀ w' σ' H', ForAt C env (fw env) X w w1 w' H' σ' → P (i + 1) w' → i + 1 ≤ L.length → FoA C n A env target body Ok (L.drop (i + 1)) σ' H' o → Nx w'.s) : ForGoal C.prog C.w A R' target it body [] env Nx w3.s := by
 cases l with
 | nil =>
  obtain ⟨σ', hs, ok, rfl⟩ := hf.nilv
  have hlen : i = L.length := Nat.le_antisymm hi (List.drop_eq_nil_iff.mp hl)
  subst hlen
  exact N.fin A w3 _ _ _ R h3.B ok p3 (N.apart p3 h3.B h3.F h3.pi).2.2 h3.low fun w4 S34 hr ht =>
   have h4 := (h3.weak hs).back (N.fld _ _ p3) S34 hr ht
   wpAny_execs_nil (K w4 _ h4.S0 (.next h4.B h4.F))
 | cons v l =>
  cases hf.uncons with
  | go σ' σ0 σ1 H2 hs ok ha hb hr =>
   refine for_turn N (h3.weak hs) R hT hl ok ha p3 (fun w6 h6 p6 e6 hi6 => hb w6 _ _ R h6.B h6.F fun w7 f S67 O7 => ?_) (fun q_ q_ q => q)
   obtain ⟨rfl, B7, F7⟩ := O7.inv
   exact hN w7 _ _ (h6.go S67 B7 F7) (N.on p6 h6.B h6.F h6.pi S67) hi6 (e6 ▸ hr)
  | ret σ' σ0 u H2 hs ok ha hb ho =>
   subst ho
   refine for_turn N (h3.weak hs) R hT hl ok ha p3 (fun w6 h6 p6 e6 hi6 => hb w6 _ _ R h6.B h6.F fun w7 f S67 O7 => ?_) (fun q_ q_ q => q)
   obtain ⟨_, rfl, B7, r7⟩ := O7.inv
   exact K w7 _ (h6.S0.trans S67) (.ret B7 r7)
theorem EsA.for {A : Around} {target iter : PySem.Expr} {Ok : List HObj → Prop} {T : PySem.Expr → Bool} {l : List V} (he : SrcE C n env σ H iter H1 Ok T l) (hT : T target = true) (hf : FoA C n A env target body Ok l σ H1 o)
  (hfold : ∀ (env : Env) x, foldedSetIterable iter env x = pure x) : EsA C n A env σ H (.For target iter body [] pos) o := by
 intro w Q E R B F K
 refine wpAny_For (he A w _ E R B F fun w1 w2 it X P P' H0 S1 B1 F1 S2 B2 hX N p2 => ?_) (hfold env)
 refine codeAny_forLoopL (ForI C n A env target body Ok X l P w w1 o) (fun j s I => ?_) l.length
  ⟨w2, σ, H1, 0, rfl, ⟨hX, B1.stays, fun a m => (B1.pins a m).2, S1, F.wide (S1.trans S2), F1.wide S2, B2, F1.step0 S2⟩, p2, Nat.zero_le _, rfl, hf⟩
 obtain ⟨w3, σ3, H3, i, rfl, h3, p3, hi, rfl, hf3⟩ := I
 exact for_go N R hT K h3 p3 hi rfl hf3 fun w' σ' H' h p hi' hf => ⟨_, drop_lt hi', w', σ', H', i + 1, rfl, h, p, hi', rfl, hf⟩
theorem Es.for {target iter : PySem.Expr} {Ok : List HObj → Prop} {T : PySem.Expr → Bool} {l : List V} (he : SrcE C n env σ H iter H1 Ok T l) (hT : T target = true) (hf : Fo C n env target body Ok l σ H1 o)
  (hfold : ∀ (env : Env) x, foldedSetIterable iter env x = pure x) : Es C n env σ H (.For target iter body [] pos) o := fun A => EsA.for he hT (hf A) hfold
end
end
section
noncomputable def rngA (a b : Int) : Asrt where
 P w v := ∃ r t u x, v = .ref r ∧ r ∉ w.ρ ∧ IsRange w.h r a b 1 t u x
 mono {X w w' v} hX S h := by
  obtain ⟨r, t, u, x, rfl, n, e⟩ := h
  refine ⟨r, t, u, x, rfl, S.notin e n, S.keep _ _ e n (hX.hard e ?_)⟩
  rintro (⟨v, h⟩ | ⟨es, n, h⟩ | ⟨vs, T, h, hc, hT⟩)
  ·cases h
  ·cases h
  ·cases hc; exact absurd hT (by decide)
 top := 0
 low {w w' v} L h := by
  obtain ⟨r, t, u, x, rfl, n, e⟩ := h
  exact ⟨r, t, u, x, rfl, fun m => n (L.sub _ m), by rw [show w'.h = w.h from congrArg Shared.heap L.s]; exact e⟩
noncomputable abbrev V.rng (a b : Int) : V := .sem (rngA a b)
noncomputable def rngL (a b : Int) : List V := (List.range (b - a).toNat).map fun (i : Nat) => V.int (a + (i : Int))
section
variable {C : Ct} {n : Nat} {env : Env} {σ σ' σ1 : Loc} {H H' H0 H1 H2 H3 : List HObj} {pos p pos' : Pos} {k : Nat} {x : Str} {v v1 v2 v3 : V} {e e1 e2 e3 : PySem.Expr} {o : Out} {st : PySem.Stmt} {rest body orelse : List PySem.Stmt}
theorem BSt.fresh {w : Wd} (B : BSt C w H) {a : Addr} (h : w.h.get? a = none) : a ∉ w.ρ := fun m => by
 obtain ⟨j, hj⟩ := List.getElem?_of_mem m
 have hl : j < H.length := by rw [← B.len]; exact (List.getElem?_eq_some_iff.mp hj).1
 obtain ⟨ob, hob⟩ := (B.obj j a _ hj (List.getElem?_eq_getElem hl)).live
 exact nomatch h.symm.trans hob
theorem size_none (h : Heap) : h.get? h.objs.size = none := by
 cases q : h.get? h.objs.size with
 | none => rfl
 | some o => exact absurd (Heap.lt_size q) (Nat.lt_irrefl _)
theorem step_same {w : Wd} {a : Addr} {h' : Heap} {t : Nat} (htk : w.s.toks ≤ t) (hs : Heap.SameBut a w.s.heap h') (_hl : ∃ o, h'.get? a = some o) :
  Step [a] w ⟨w.ρ, w.π, { w.s with heap := h', toks := t }⟩ ∧ (∀ b o, w.h.get? b = some o → b ∉ [a] → h'.get? b = some o) := by
 refine ⟨⟨⟨[], (List.append_nil _).symm, fun q_ m => nomatch m⟩, fun b o e q_ m => (hs.2 b fun q => m (q ▸ .head _)).trans e, fun b o e m => ⟨o, (hs.2 b fun q => m (q ▸ .head _)).trans e⟩, rfl, rfl, rfl, htk⟩, fun b o e m => (hs.2 b fun q => m (q ▸ .head _)).trans e⟩
theorem step_extBut {w : Wd} {a : Addr} {h' : Heap} (hs : Heap.ExtBut a w.s.heap h') :
  Step [a] w ⟨w.ρ, w.π, { w.s with heap := h' }⟩ ∧ (∀ b o, w.h.get? b = some o → b ∉ [a] → h'.get? b = some o) := by
 refine ⟨⟨⟨[], (List.append_nil _).symm, fun q_ m => nomatch m⟩, fun b o e q_ m => hs b o (fun q => m (q ▸ .head _)) e, fun b o e m => ⟨o, hs b o (fun q => m (q ▸ .head _)) e⟩, rfl, rfl, rfl, Nat.le_refl _⟩, fun b o e m => hs b o (fun q => m (q ▸ .head _)) e⟩
theorem step_two {w : Wd} {a b : Addr} {h' : Heap} {t : Nat} (ht : w.s.toks ≤ t) (hk : ∀ c o, c ≠ a → c ≠ b → w.s.heap.get? c = some o → h'.get? c = some o) :
  Step [a, b] w ⟨w.ρ, w.π, { w.s with heap := h', toks := t }⟩ ∧ (∀ c o, w.h.get? c = some o → c ∉ [a, b] → h'.get? c = some o) := by
 have k : ∀ c o, w.h.get? c = some o → c ∉ [a, b] → h'.get? c = some o := fun c o e m => hk c o (fun q => m (q ▸ .head _)) (fun q => m (q ▸ .tail _ (.head _))) e
 exact ⟨⟨⟨[], (List.append_nil _).symm, fun q_ m => nomatch m⟩, fun c o e q_ m => k c o e m, fun c o e m => ⟨o, k c o e m⟩, rfl, rfl, rfl, ht⟩, k⟩
theorem own_iter {w : Wd} {I : Addr} {o : Obj} {vs : Array Value} {T : String} {target : PySem.Expr} {y : Value} {A : Around} {Q : Unit → Shared → Prop} {E : Value → Shared → Prop}
  (ho : w.h.get? I = some o) (hd : o.data = .fields vs) (hc : o.cls = .type T)
  (hT : (["enumerate", "zip", "dict_itemiterator", "dict_reverseitemiterator", "odict_iterator", "itertools.zip_longest", "itertools.pairwise"].contains T) = false) (K : Q () w.s) :
  wpAny C.M A (letOwnedTupleGo target (.ref I) y) Q E w.s := by
 have go : wpAny C.M A (match (.ref I : Value), y with
   | .ref r, .ref a => (do
    let o ← load r
    match o.cls, o.data with
    | .type n, .fields vs =>
     if ["enumerate", "zip", "dict_itemiterator", "dict_reverseitemiterator", "odict_iterator", "itertools.zip_longest", "itertools.pairwise"].contains n && vs[0]? == some (rawInt a) then
      rule "for.unpacks-the-owned-tuple"
      updateField r 0 .none
    | _, _ => pure () : Sem Unit)
   | _, _ => pure ()) Q E w.s := by
  cases y with
  | ref a =>
   refine wpAny_bind (wpAny_load ho ?_)
   rw [hc, hd]
   dsimp only
   rw [if_neg (by rw [hT, Bool.false_and]; exact Bool.false_ne_true)]
   exact wpAny_pure K
  | _ => exact wpAny_pure K
 cases target with
 | Tuple => unfold letOwnedTupleGo; cases y <;> exact go
 | List => unfold letOwnedTupleGo; cases y <;> exact go
 | _ => exact wpAny_pure K
theorem VRel.at {w : Wd} {a : V} {l : List V} {q : Addr} (B : BSt C w H) (h : Lsy H a l) (r : VRel w a (.ref q)) : ∃ vs m, w.h.get? q = some (lstObj vs m) ∧ VRels w l vs := by
 obtain ⟨q', vs, m, e, h1, h2⟩ := h.at B r
 cases e; exact ⟨vs, m, h1, h2⟩
theorem Src.lst {a : V} {l : List V} (h : Lsy H a l) : Src C n a H (fun H' => Lsy H' a l) l := by
 intro A w y Q E R B r K
 obtain ⟨q, vs, m, rfl, ho, rv⟩ := h.at B r
 refine wpAny_pyIter_list (isList_of ho) ?_
 have X1 : Ext w ⟨w.ρ, w.π, { w.s with heap := w.s.heap.push { cls := .type "list_iterator", data := .fields #[.ref q, .int 0 0] } }⟩ := Ext.push _
 refine K ⟨w.ρ, w.π, _⟩ (.ref w.s.heap.objs.size) [w.s.heap.objs.size] (fun i w' => VRel w' a (.ref q) ∧ w'.h.IsListIter w.s.heap.objs.size q i) (fun i q_ w' => VRel w' a (.ref q) ∧ w'.h.IsListIter w.s.heap.objs.size q i) X1.step (B.ext X1) (fun b hb => ?_) (NextOk.b ?_) ⟨r.ext X1, _, Heap.get?_push_size _ rfl, rfl, rfl⟩
 ·rw [List.mem_singleton.mp hb]; exact size_none _
 ·generalize w.s.heap.objs.size = I
  refine ⟨fun A w1 Q E R p K => wpAny_pyIter_listiter p.2 K, ?_, ?_, ?_, ?_, ?_, ?_⟩
  ·rintro i w' ⟨_, o, ho, hc, hd⟩ b hb
   rw [List.mem_singleton.mp hb]
   exact ⟨o, _, _, ho, hd, hc, by decide⟩
  ·rintro i y w' ⟨_, o, ho, hc, hd⟩ b hb
   rw [List.mem_singleton.mp hb]
   exact ⟨o, _, _, ho, hd, hc, by decide⟩
  ·rintro i w1 w2 Y ⟨r1, o, ho, hc, hd⟩ S hY hXY hρ
   exact ⟨r1.step hY S, o, S.keep _ o ho (hρ I (.head _)) (hXY I (.head _)), hc, hd⟩
  ·rintro i v A w1 H1 Q E hi R B1 ok ⟨r1, hit⟩ hX K
   obtain ⟨vs, m, ho, rv⟩ := r1.at B1 ok
   obtain ⟨z, h1, h2⟩ := rv.get hi
   refine wpAny_pyNext_list_item hit (isList_of ho) (by simpa using h1) fun h' hit' hs => ?_
   have hl : ∃ o, h'.get? I = some o := let ⟨o, e, _⟩ := hit'; ⟨o, e⟩
   obtain ⟨S, ht⟩ := step_same (w := w1) (t := w1.s.toks) (Nat.le_refl _) hs hl
   exact K ⟨w1.ρ, w1.π, _⟩ z S rfl ht ⟨r1.step hX S, hit'⟩ (h2.step hX S)
  ·rintro A w1 H1 Q E R B1 ok ⟨r1, hit⟩ hX K
   obtain ⟨vs, m, ho, rv⟩ := r1.at B1 ok
   refine wpAny_pyNext_list_end R.hd hit (isList_of ho) ?_ fun h' hs => ?_
   ·rw [← rv.length]; simp
   ·obtain ⟨S, ht⟩ := step_extBut (w := w1) hs
    exact K ⟨w1.ρ, w1.π, _⟩ S rfl ht
  ·rintro i A w1 H1 target v y Q E _ _ ⟨r1, o, ho, hc, hd⟩ hX B1 rv K
   exact own_iter ho hd hc (by decide) (K w1 (Step.refl _ _) rfl (fun q_ q_ e q_ => e) ⟨r1, o, ho, hc, hd⟩)
theorem Src.tup {l : List V} : Src C n (.tup l) H (fun q_ => True) l := by
 intro A w y Q E R B r K
 cases r with
 | @tup _ q vs m ho hn rv =>
 refine wpAny_pyIter_tuple (t := q) (items := vs.toArray) ⟨_, ho, rfl, _, rfl⟩ ?_
 have X1 : Ext w ⟨w.ρ, w.π, { w.s with heap := w.s.heap.push { cls := .type "tuple_iterator", data := .fields #[.ref q, .int 0 0] } }⟩ := Ext.push _
 refine K ⟨w.ρ, w.π, _⟩ (.ref w.s.heap.objs.size) [w.s.heap.objs.size] (fun i w' => (w'.h.get? q = some (tupObj vs m) ∧ q ∉ w'.ρ ∧ VRels w' l vs) ∧ w'.h.IsTupleIter w.s.heap.objs.size q i) (fun i q_ w' => (w'.h.get? q = some (tupObj vs m) ∧ q ∉ w'.ρ ∧ VRels w' l vs) ∧ w'.h.IsTupleIter w.s.heap.objs.size q i) X1.step (B.ext X1) (fun b hb => ?_) (NextOk.b ?_)
  ⟨⟨X1.keep _ _ ho, hn, rv.ext X1⟩, _, Heap.get?_push_size _ rfl, rfl, rfl⟩
 ·rw [List.mem_singleton.mp hb]; exact size_none _
 ·generalize w.s.heap.objs.size = I
  have mono : ∀ {w1 w2 : Wd} {Y}, NonSeq w1 Y → Step Y w1 w2 → (w1.h.get? q = some (tupObj vs m) ∧ q ∉ w1.ρ ∧ VRels w1 l vs) → (w2.h.get? q = some (tupObj vs m) ∧ q ∉ w2.ρ ∧ VRels w2 l vs) :=
   fun hY S h => ⟨S.keep _ _ h.1 h.2.1 (hY.not h.1 ⟨_, _, rfl⟩), S.notin h.1 h.2.1, h.2.2.step hY S⟩
  refine ⟨fun A w1 Q E R p K => wpAny_pyIter_tupleiter p.2 K, ?_, ?_, ?_, ?_, ?_, ?_⟩
  ·rintro i w' ⟨_, o, ho, hc, hd⟩ b hb
   rw [List.mem_singleton.mp hb]
   exact ⟨o, _, _, ho, hd, hc, by decide⟩
  ·rintro i y w' ⟨_, o, ho, hc, hd⟩ b hb
   rw [List.mem_singleton.mp hb]
   exact ⟨o, _, _, ho, hd, hc, by decide⟩
  ·rintro i w1 w2 Y ⟨r1, o, ho, hc, hd⟩ S hY hXY hρ
   exact ⟨mono hY S r1, o, S.keep _ o ho (hρ I (.head _)) (hXY I (.head _)), hc, hd⟩
  ·rintro i v A w1 H1 Q E hi R B1 ok ⟨r1, hit⟩ hX K
   obtain ⟨z, h1, h2⟩ := r1.2.2.get hi
   refine wpAny_pyNext_tuple_item hit ⟨_, r1.1, rfl, _, rfl⟩ (by simpa using h1) fun h' hit' hs => ?_
   have hl : ∃ o, h'.get? I = some o := let ⟨o, e, _⟩ := hit'; ⟨o, e⟩
   obtain ⟨S, ht⟩ := step_same (w := w1) (t := w1.s.toks) (Nat.le_refl _) hs hl
   exact K ⟨w1.ρ, w1.π, _⟩ z S rfl ht ⟨mono hX S r1, hit'⟩ (h2.step hX S)
  ·rintro A w1 H1 Q E R B1 ok ⟨r1, hit⟩ hX K
   refine wpAny_pyNext_tuple_end R.hd hit ⟨_, r1.1, rfl, _, rfl⟩ ?_ fun h' hs => ?_
   ·rw [← rv.length]; simp
   ·obtain ⟨S, ht⟩ := step_extBut (w := w1) hs
    exact K ⟨w1.ρ, w1.π, _⟩ S rfl ht
  ·rintro i A w1 H1 target v y Q E _ _ ⟨r1, o, ho, hc, hd⟩ hX B1 rv K
   exact own_iter ho hd hc (by decide) (K w1 (Step.refl _ _) rfl (fun q_ q_ e q_ => e) ⟨r1, o, ho, hc, hd⟩)
theorem fitsL {i : Int} (h1 : -(2 ^ 62) < i) (h2 : i < 2 ^ 62) : Builtin.Range.rangeFitsLong i = true := by
 unfold Builtin.Range.rangeFitsLong
 rw [Bool.and_eq_true, decide_eq_true_eq, decide_eq_true_eq]
 lia
theorem small_of {a b : Int} (ha : 0 ≤ a) (ha' : a < 2 ^ 40) (hb : -(2 ^ 40) < b) (hb' : b < 2 ^ 40) : Builtin.Range.small a b 1 = true ∧ Builtin.Range.rangeSize a b 1 = ((b - a).toNat : Int) := by
 have hs : Builtin.Range.rangeSize a b 1 = ((b - a).toNat : Int) := by
  unfold Builtin.Range.rangeSize
  split <;> (try split) <;> lia
 refine ⟨?_, hs⟩
 unfold Builtin.Range.small
 rw [hs, fitsL (by lia) (by lia), fitsL (i := b) (by lia) (by lia), fitsL (i := 1) (by exact Int.ofNat_nonneg _) (by exact Int.ofNat_nonneg _), fitsL (i := ((b - a).toNat : Int)) (by exact Int.ofNat_nonneg _) (by lia)]
 rw [if_pos (by exact Int.ofNat_nonneg _), fitsL (by lia) (by lia)]
 simp
theorem Src.rng {a b : Int} (ha : 0 ≤ a) (ha' : a < 2 ^ 40) (hb : -(2 ^ 40) < b) (hb' : b < 2 ^ 40) : Src C n (.rng a b) H (fun q_ => True) (rngL a b) := by
 intro A w y Q E R B r K
 cases r with
 | sem h =>
 obtain ⟨q, t, u, x, rfl, hq, hr⟩ := h
 obtain ⟨hsm, hsz⟩ := small_of ha ha' hb hb'
 refine wpAny_pyIter_range hr hsm ?_
 rw [hsz]
 have X1 : Ext w ⟨w.ρ, w.π, { w.s with heap := w.s.heap.push { cls := .type "range_iterator", data := .fields #[rawInt a, rawInt ((b - a).toNat : Int), rawInt 1] } }⟩ := Ext.push _
 have len : (rngL a b).length = (b - a).toNat := by simp [rngL]
 refine K ⟨w.ρ, w.π, _⟩ (.ref w.s.heap.objs.size) [w.s.heap.objs.size] (fun i w' => IsRangeIter w'.h w.s.heap.objs.size (a + i) (((b - a).toNat : Int) - i) 1) (fun i q_ w' => IsRangeIter w'.h w.s.heap.objs.size (a + i) (((b - a).toNat : Int) - i) 1) X1.step (B.ext X1) (fun b hb => ?_) (NextOk.b ?_) ?_
 ·rw [List.mem_singleton.mp hb]; exact size_none _
 ·generalize w.s.heap.objs.size = I
  refine ⟨fun A w1 Q E R p K => wpAny_pyIter_rangeiter p K, ?_, ?_, ?_, ?_, ?_, ?_⟩
  ·intro i w' hit b hb
   rw [List.mem_singleton.mp hb]
   exact ⟨_, _, _, hit, rfl, rfl, by decide⟩
  ·intro i y w' hit b hb
   rw [List.mem_singleton.mp hb]
   exact ⟨_, _, _, hit, rfl, rfl, by decide⟩
  ·intro i w1 w2 Y hit S hY hXY hρ
   exact S.keep _ _ hit (hρ I (.head _)) (hXY I (.head _))
  ·intro i v A w1 H1 Q E hi R B1 ok hit hX K
   have hlt : i < (b - a).toNat := by rw [← len]; exact (List.getElem?_eq_some_iff.mp hi).1
   have hv : v = .int (a + i) := by
    have := hi
    simp only [rngL, List.getElem?_map, List.getElem?_range hlt, Option.map_some] at this
    exact (Option.some.inj this).symm
   subst hv
   refine wpAny_pyNext_range_item hit (by lia) fun h' hit' hs => ?_
   obtain ⟨S, ht⟩ := step_same (w := w1) (t := w1.s.toks + 1) (Nat.le_succ _) hs ⟨_, hit'⟩
   refine K ⟨w1.ρ, w1.π, _⟩ _ S rfl ht ?_ (.int _ _)
   rw [show a + ((i + 1 : Nat) : Int) = a + i + 1 by lia, show ((b - a).toNat : Int) - ((i + 1 : Nat) : Int) = ((b - a).toNat : Int) - i - 1 by lia]
   exact hit'
  ·intro A w1 H1 Q E R B1 ok hit hX K
   rw [len] at hit
   refine wpAny_pyNext_range_end R.hd hit (by lia) fun h' hs => ?_
   obtain ⟨S, ht⟩ := step_extBut (w := w1) hs
   exact K ⟨w1.ρ, w1.π, _⟩ S rfl ht
  ·intro i A w1 H1 target v y Q E _ _ hit hX B1 rv K
   exact own_iter hit rfl rfl (by decide) (K w1 (Step.refl _ _) rfl (fun q_ q_ e q_ => e) hit)
 ·show IsRangeIter _ _ (a + ((0 : Nat) : Int)) (((b - a).toNat : Int) - ((0 : Nat) : Int)) 1
  rw [show a + ((0 : Nat) : Int) = a by lia, show ((b - a).toNat : Int) - ((0 : Nat) : Int) = ((b - a).toNat : Int) by rfl]
  exact Heap.get?_push_size _ rfl
theorem Fn.range1 {b : Int} : Fn C n (.val (.type "range")) [.int b] [] H H (.rng 0 b) := by
 intro A w Q E g xs ks R B rg rx rk K
 obtain ⟨_, rfl⟩ := rg.inv
 obtain ⟨x, rfl, r1⟩ := rx.inv1
 cases rk.inv0
 obtain ⟨t0, rfl⟩ := r1.inv
 refine call_range_1 ?_
 have X1 : Ext w ⟨w.ρ, w.π, { w.s with heap := w.s.heap.push { cls := .type "range", data := .fields #[.int 0 w.s.toks, Value.int b t0, .int 1 (w.s.toks + 1)] }, toks := w.s.toks + 1 + 1 }⟩ := ⟨rfl, fun q_ q_ e => Heap.get?_push_of_some _ e, rfl, rfl, rfl, by show w.s.toks ≤ w.s.toks + 1 + 1; lia⟩
 exact K ⟨w.ρ, w.π, _⟩ _ X1.step (B.ext X1) (.sem ⟨_, _, _, _, rfl, B.fresh (size_none _), Heap.get?_push_size _ rfl⟩)
end
end
section
section
variable {C : Ct} {n : Nat} {env : Env} {σ σ' σ1 : Loc} {H H' H0 H1 H2 H3 : List HObj}
theorem BSt.track {w : Wd} (B : BSt C w H) {s' : Shared} {a : Addr} {o : HObj} (hk : ∀ b ob, w.h.get? b = some ob → s'.heap.get? b = some ob) (hg : s'.gens = w.s.gens) (ho : s'.os = w.s.os) (htk : w.s.toks ≤ s'.toks) (ha : w.h.get? a = none) (h3 : 3 < a)
  (hn : Step [] w ⟨w.ρ ++ [a], w.π, s'⟩ → ORel ⟨w.ρ ++ [a], w.π, s'⟩ a o) (ht : ∀ P : OAsrt, o = .sem P → P.top ≤ H.length + 1) : BSt C ⟨w.ρ ++ [a], w.π, s'⟩ (H ++ [o]) ∧ Step [] w ⟨w.ρ ++ [a], w.π, s'⟩ := by
 have S : Step [] w ⟨w.ρ ++ [a], w.π, s'⟩ := ⟨⟨[a], rfl, fun b m => by rw [List.mem_singleton.mp m]; exact ⟨ha, fun z => nomatch z⟩⟩, fun b ob e q_ q_ => hk b ob e, fun b ob e q_ => ⟨ob, hk b ob e⟩, hg, ho, rfl, htk⟩
 refine ⟨⟨fun b ob e => hk b ob (B.stays b ob e), fun b m => ?_, ?_, by simp [B.len], fun i b ob e1 e2 => ?_, fun b m => ?_, fun h => Nat.lt_of_lt_of_le (B.tok h) htk, fun i P e => ?_⟩, S⟩
 ·rcases List.mem_append.mp m with m | m
  ·exact B.out b m
  ·rw [List.mem_singleton.mp m]
   refine ⟨?_, fun z => by rw [z] at h3; exact absurd h3 (by decide)⟩
   cases q : C.h₀.get? a with
   | none => rfl
   | some ob => have := B.stays a ob q; rw [show w.h.get? a = _ from ha] at this; cases this
 ·refine List.nodup_append.mpr ⟨B.nodup, by simp, fun b m c m' => ?_⟩
  rw [List.mem_singleton.mp m']
  exact fun q => B.fresh ha (q ▸ m)
 ·by_cases q : i < w.ρ.length
  ·have e1' : w.ρ[i]? = some b := by simpa [List.getElem?_append_left q] using e1
   have e2' : H[i]? = some ob := by rw [List.getElem?_append_left (B.len ▸ q)] at e2; exact e2
   exact (B.obj i b ob e1' e2').move .nil S (hk b)
  ·have hi : i = w.ρ.length := by
    have := (List.getElem?_eq_some_iff.mp e1).1
    simp at this; lia
   have e1' : a = b := by simpa [hi] using e1
   have e2' : o = ob := by simpa [hi, B.len] using e2
   subst e1'; subst e2'; exact hn S
 ·obtain ⟨h1, ob, h2⟩ := B.pins b m
  refine ⟨fun z => ?_, ob, hk b ob h2⟩
  rcases List.mem_append.mp z with z | z
  ·exact h1 z
  ·rw [List.mem_singleton.mp z, show w.h.get? a = _ from ha] at h2; cases h2
 ·by_cases q : i < H.length
  ·rw [List.length_append]; exact Nat.le_trans (B.tops i P (by rw [List.getElem?_append_left q] at e; exact e)) (Nat.le_add_right _ _)
  ·have hi : i = H.length := by
    have := (List.getElem?_eq_some_iff.mp e).1
    simp at this; lia
   rw [List.length_append]; exact ht P (by simpa [hi] using e)
theorem BSt.setK {w : Wd} (B : BSt C w H) {s' : Shared} {a : Addr} {i : Nat} {o : HObj} (hi : w.ρ[i]? = some a) (base : ∀ b ob, b ≠ a → w.h.get? b = some ob → s'.heap.get? b = some ob) (hg : s'.gens = w.s.gens) (ho : s'.os = w.s.os) (htk : w.s.toks ≤ s'.toks)
  (hl : ∃ ob, s'.heap.get? a = some ob) (hn : Step [] w ⟨w.ρ, w.π, s'⟩ → ORel ⟨w.ρ, w.π, s'⟩ a o) (ht : ∀ P : OAsrt, o = .sem P → P.top ≤ H.length) : BSt C ⟨w.ρ, w.π, s'⟩ (H.set i o) ∧ Step [] w ⟨w.ρ, w.π, s'⟩ := by
 have mem : a ∈ w.ρ := List.mem_of_getElem? hi
 have hlt : i < w.ρ.length := (List.getElem?_eq_some_iff.mp hi).1
 have S : Step [] w ⟨w.ρ, w.π, s'⟩ := ⟨⟨[], by simp, by simp⟩, fun b ob e m q_ => base b ob (fun q => m (q ▸ mem)) e, fun b ob e q_ => by
  by_cases q : b = a
  ·rw [q]; exact hl
  ·exact ⟨ob, base b ob q e⟩, hg, ho, rfl, htk⟩
 refine ⟨⟨fun b ob e => base b ob (fun q => ?_) (B.stays b ob e), B.out, B.nodup, by simpa using B.len, fun j b ob e1 e2 => ?_, fun b m => ?_, fun h => Nat.lt_of_lt_of_le (B.tok h) htk, fun j P e => ?_⟩, S⟩
 ·rw [q, (B.out a mem).1] at e; cases e
 ·by_cases q : i = j
  ·subst q
   have e1' : w.ρ[i]? = some b := e1
   obtain rfl := Option.some.inj (hi.symm.trans e1')
   rw [List.getElem?_set_self (by rw [← B.len]; exact hlt)] at e2
   cases e2; exact hn S
  ·rw [List.getElem?_set_ne q] at e2
   refine (B.obj j b ob e1 e2).move .nil S fun ob' e => base b ob' (fun qq => q ?_) e
   subst qq
   have hj : j < w.ρ.length := (List.getElem?_eq_some_iff.mp e1).1
   exact ((List.getElem?_inj hlt B.nodup).mp (hi.trans e1.symm))
 ·obtain ⟨h1, ob, h2⟩ := B.pins b m
  exact ⟨h1, ob, base b ob (fun q => h1 (q ▸ mem)) h2⟩
 ·by_cases q : i = j
  ·subst q
   rw [List.getElem?_set_self (by rw [← B.len]; exact hlt)] at e
   rw [List.length_set]; exact ht P (Option.some.inj e)
  ·rw [List.getElem?_set_ne q] at e
   rw [List.length_set]; exact B.tops j P e
theorem BSt.set {w : Wd} (B : BSt C w H) {s' : Shared} {a : Addr} {i : Nat} {o : HObj} (hi : w.ρ[i]? = some a) (hs : Heap.SameBut a w.s.heap s'.heap) (hg : s'.gens = w.s.gens) (ho : s'.os = w.s.os) (htk : w.s.toks ≤ s'.toks)
  (hl : ∃ ob, s'.heap.get? a = some ob) (hn : Step [] w ⟨w.ρ, w.π, s'⟩ → ORel ⟨w.ρ, w.π, s'⟩ a o) (ht : ∀ P : OAsrt, o = .sem P → P.top ≤ H.length) : BSt C ⟨w.ρ, w.π, s'⟩ (H.set i o) ∧ Step [] w ⟨w.ρ, w.π, s'⟩ :=
 B.setK hi (fun b q_ q e => (hs.2 b q).trans e) hg ho htk hl hn ht
theorem BSt.lower {w : Wd} (B : BSt C w H) (m : Nat) (hc : Cl (H.take m)) (hm : m ≤ H.length) : BSt C ⟨w.ρ.take m, w.π, w.s⟩ (H.take m) ∧ Low m w ⟨w.ρ.take m, w.π, w.s⟩ := by
 have L : Low m w ⟨w.ρ.take m, w.π, w.s⟩ := ⟨rfl, fun i h => List.getElem?_take_of_lt h, fun a h => List.mem_of_mem_take h, rfl⟩
 refine ⟨⟨B.stays, fun a h => B.out a (List.mem_of_mem_take h), B.nodup.sublist (List.take_sublist _ _), by simp [B.len], fun i a o e1 e2 => ?_, fun a h => ?_, B.tok, fun i P e => ?_⟩, L⟩
 ·have hi : i < m := by
   have := (List.getElem?_eq_some_iff.mp e2).1
   simp at this; lia
  have e1' : w.ρ[i]? = some a := by
   have := e1; rw [show (⟨w.ρ.take m, w.π, w.s⟩ : Wd).ρ = w.ρ.take m from rfl, List.getElem?_take_of_lt hi] at this; exact this
  rw [List.getElem?_take_of_lt hi] at e2
  cases B.obj i a o e1' e2 with
  | list e r d => exact .list e (r.dat (w := w) (w' := ⟨w.ρ.take m, w.π, w.s⟩) rfl (fun a h => List.mem_of_mem_take h) d) d
  | sem e p => exact .sem e (OAsrt.low _ (L.le (Nat.le_trans (hc i _ (by rw [List.getElem?_take_of_lt hi]; exact e2)) (List.length_take_le _ _))) p)
 ·obtain ⟨h1, h2⟩ := B.pins a h
  exact ⟨fun z => h1 (List.mem_of_mem_take z), h2⟩
 ·exact hc i P e
theorem Step.lower {w w' : Wd} {m : Nat} (S : Step [] w w') (h : w.ρ.length ≤ m) : Step [] w ⟨w'.ρ.take m, w'.π, w'.s⟩ := by
 obtain ⟨δ, h1, h2⟩ := S.rho
 exact ⟨⟨δ.take (m - w.ρ.length), by show w'.ρ.take m = _; rw [h1, List.take_append, List.take_of_length_le h], fun a q => h2 a (List.mem_of_mem_take q)⟩, S.keep, S.live, S.gens, S.os, S.pin, S.tk⟩
noncomputable def Fz (H : List HObj) (m : Nat) (v v' : V) : Prop := ∀ (C : Ct) (w : Wd) (x : Value), BSt C w H → VRel w v x → VRel ⟨w.ρ.take m, w.π, w.s⟩ v' x
theorem take_sub {w : Wd} {m : Nat} : ∀ a, a ∈ (⟨w.ρ.take m, w.π, w.s⟩ : Wd).ρ → a ∈ w.ρ := fun q_ h => List.mem_of_mem_take h
theorem Fz.rel {w : Wd} {m : Nat} {v v' : V} {x : Value} (B : BSt C w H) (f : Fz H m v v') (r : VRel w v x) : VRel ⟨w.ρ.take m, w.π, w.s⟩ v' x := f _ _ _ B r
theorem Fz.dat {m : Nat} {v : V} (d : v.dat = true) : Fz H m v v := fun q_ w q_ q_ r => r.dat (w := w) (w' := ⟨w.ρ.take m, w.π, w.s⟩) rfl take_sub d
theorem Fz.lst {m k : Nat} {l : List V} (h : H[k]? = some (HObj.list l)) (hm : m ≤ k) : Fz H m (.ref k) (.lst l) := fun q_ w q_ B r => by
 obtain ⟨a, rfl, e⟩ := r.inv
 obtain ⟨a, vs, q, h1, h2, h3, d⟩ := B.get h
 obtain rfl := Option.some.inj (e.symm.trans h1)
 refine .lst h2 (fun z => ?_) (h3.dat (w := w) (w' := ⟨w.ρ.take m, w.π, w.s⟩) rfl take_sub d)
 obtain ⟨j, hj⟩ := List.getElem?_of_mem (l := w.ρ.take m) z
 have hjm : j < m := Nat.lt_of_lt_of_le (List.getElem?_eq_some_iff.mp hj).1 (List.length_take_le _ _)
 rw [List.getElem?_take_of_lt hjm] at hj
 have := (List.getElem?_inj (List.getElem?_eq_some_iff.mp hj).1 B.nodup).mp (hj.trans e.symm)
 exact absurd hjm (Nat.not_lt.mpr (this ▸ hm))
theorem Fn.shed {K : List HObj} {f : V} {args : List V} {kw : List (Str × V)} {v v' : V} (h : Fn C n f args kw H (H' ++ K) v) (hm : H.length ≤ H'.length) (hz : Fz (H' ++ K) H'.length v v') (hc : Cl H → Cl H') : Fn C n f args kw H H' v' := by
 intro A w Q E g xs ks R B rg rx rk Kk
 refine h A w Q E g xs ks R B rg rx rk fun w1 y S1 B1 r1 => ?_
 have := (B1.lower H'.length (by rw [List.take_left]; exact hc B.tops) (by simp)).1
 rw [List.take_left] at this
 exact Kk ⟨w1.ρ.take H'.length, w1.π, w1.s⟩ y (S1.lower (by rw [B.len]; exact hm)) this (hz.rel B1 r1)
end
end
section
noncomputable def TstL (C : Ct) (n : Nat) (env : Env) (σ : Loc) (H : List HObj) (ifs : List PySem.Expr) (b : Bool) : Prop :=
 ∀ (A : Around) (w : Wd) (Q : Bool → Shared → Prop) (E : Value → Shared → Prop), Room A n → BSt C w H → FSt C w env σ → (∀ w', Step [] w w' → BSt C w' H → FSt C w' env σ → Q b w'.s) →
  wpAny C.M A (forIn ifs true fun c r => if r = true then do let ok ← isTrue c env (eval c env); pure (ForInStep.yield ok) else pure (ForInStep.yield r)) Q E w.s
inductive CoC (C : Ct) (n : Nat) (env : Env) (target : PySem.Expr) (ifs : List PySem.Expr) (elt : PySem.Expr) (σ : Loc) (H : List HObj) (v : V) (W : List V → Prop) (rs : List V) : Prop
 | cons (σ0 : Loc) (r : V) (rs' : List V) : (∀ K, Ast C n env [env.locals] target v σ (H ++ K) σ0) → (∀ K, TstL C n env σ0 (H ++ K) ifs true) → (∀ K, Ev C n env σ0 (H ++ K) elt (H ++ K) r) → r.dat = true → (∀ x v, σ.lookup x = some v → σ0.lookup x = some v) → W rs' → rs = r :: rs' → CoC C n env target ifs elt σ H v W rs
 | skip (σ0 : Loc) : (∀ K, Ast C n env [env.locals] target v σ (H ++ K) σ0) → (∀ K, TstL C n env σ0 (H ++ K) ifs false) → (∀ x v, σ.lookup x = some v → σ0.lookup x = some v) → W rs → CoC C n env target ifs elt σ H v W rs
noncomputable def Co (C : Ct) (n : Nat) (env : Env) (target : PySem.Expr) (ifs : List PySem.Expr) (elt : PySem.Expr) (σ : Loc) (H : List HObj) (l : List V) : List V → Prop :=
 List.rec (motive := fun q_ => List V → Prop) (fun rs => rs = []) (fun v q_ W => CoC C n env target ifs elt σ H v W) l
section
variable {C : Ct} {n : Nat} {env : Env} {target elt : PySem.Expr} {ifs : List PySem.Expr} {σ σ0 : Loc} {H : List HObj} {l rs : List V} {v r : V}
theorem Co.nil : Co C n env target ifs elt σ H [] [] := rfl
theorem Co.cons (a : ∀ K, Ast C n env [env.locals] target v σ (H ++ K) σ0) (b : ∀ K, TstL C n env σ0 (H ++ K) ifs true) (c : ∀ K, Ev C n env σ0 (H ++ K) elt (H ++ K) r) (d : r.dat = true) (e : ∀ x v, σ.lookup x = some v → σ0.lookup x = some v) (f : Co C n env target ifs elt σ H l rs) : Co C n env target ifs elt σ H (v :: l) (r :: rs) :=
 CoC.cons σ0 r rs a b c d e f rfl
theorem Co.skip (a : ∀ K, Ast C n env [env.locals] target v σ (H ++ K) σ0) (b : ∀ K, TstL C n env σ0 (H ++ K) ifs false) (e : ∀ x v, σ.lookup x = some v → σ0.lookup x = some v) (f : Co C n env target ifs elt σ H l rs) : Co C n env target ifs elt σ H (v :: l) rs :=
 CoC.skip σ0 a b e f
theorem Co.nilv (h : Co C n env target ifs elt σ H [] rs) : rs = [] := h
theorem Co.uncons (h : Co C n env target ifs elt σ H (v :: l) rs) : CoC C n env target ifs elt σ H v (Co C n env target ifs elt σ H l) rs := h
theorem Co.both (h : Co C n env target ifs elt σ H l rs) : rs.length ≤ l.length ∧ datL rs = true := by
 induction l generalizing rs with
 | nil => cases h.nilv; exact ⟨Nat.le_refl _, rfl⟩
 | cons v l ih =>
  cases h.uncons with
  | cons σ0 r rs' a b c d e f g =>
   subst g
   exact ⟨Nat.succ_le_succ (ih f).1, by rw [datL, d, (ih f).2]; rfl⟩
  | skip σ0 a b c d => exact ⟨Nat.le_succ_of_le (ih d).1, (ih d).2⟩
theorem Co.lengths (h : Co C n env target ifs elt σ H l rs) : rs.length ≤ l.length := h.both.1
end
section
variable {prog : Program} {w : World} {A : Around} {E : Value → Shared → Prop} {R : Result → Shared → Prop} {s : Shared}
noncomputable def CompGoal (prog : Program) (w : World) (A : Around) (R : Result → Shared → Prop) (elt target : PySem.Expr) (ifs : List PySem.Expr) (it acc : Value) (env : Env) (N : Shared → Prop) (s : Shared) : Prop :=
 wpAny (model prog w) A (pyNext it) (fun r s₁ => match r with
   | none => R (.ok .next) s₁
   | some v => wpAny (model prog w) A (letOwnedTupleGo target it v) (fun q_ s₀ => wpAny (model prog w) A (assign target env v) (fun q_ s₂ =>
     wpAny (model prog w) A (forIn ifs true fun c r => if r = true then do let ok ← isTrue c env (eval c env); pure (ForInStep.yield ok) else pure (ForInStep.yield r)) (fun ok s₃ => if ok = true then wpAny (model prog w) A (eval elt env) (fun x s₄ =>
      wpAny (model prog w) A (call (.builtin "list.append") [acc, x]) (fun q_ s₅ => N s₅) (notedBy (model prog w) A env fun e s' => R (.error e) s') s₄) (notedBy (model prog w) A env fun e s' => R (.error e) s') s₃
      else N s₃) (notedBy (model prog w) A env fun e s' => R (.error e) s') s₂)
     (notedBy (model prog w) A env fun e s' => R (.error e) s') s₀) (notedBy (model prog w) A env fun e s' => R (.error e) s') s₁) (notedBy (model prog w) A env fun e s' => R (.error e) s') s
theorem codeAny_compLoopL {elt target iter : PySem.Expr} {ifs : List PySem.Expr} {scope : Scope} {pos : Pos} {it acc : Value} {env : Env} (I : Nat → Shared → Prop)
  (turn : ∀ n s, I n s → CompGoal prog w A R elt target ifs it acc env (fun s => ∃ m, m < n ∧ I m s) s)
  (n : Nat) (h : I n s) : codeAny (model prog w) A (.compLoop (.ListComp elt [⟨target, iter, ifs, 0⟩] scope pos) 0 it acc env) R s := by
 refine codeAny_loop rfl I (fun n s hI => ?_) n h
 show wpAny _ A ((compTurn (.ListComp elt [⟨target, iter, ifs, 0⟩] scope pos) 0 it acc env).onRaise (fun x => do noteFrame x env; theTreesLotGoes x)) _ _ s
 refine wpAny_noted ?_
 rw [compTurn_list]
 refine wpAny_bind (wpAny_standAt (wpAny_bind (wpAny_mono (turn n s hI) (fun r s₁ h₁ => ?_) fun q_ q_ h' => h')))
 cases r with
 | none => exact wpAny_pure h₁
 | some v =>
  refine wpAny_bind (wpAny_mono h₁ (fun q_ s₀ h₀' => ?_) fun q_ q_ h' => h')
  refine wpAny_bind (wpAny_mono h₀' (fun q_ s₂ h₂ => ?_) fun q_ q_ h' => h')
  refine wpAny_bind (wpAny_mono h₂ (fun okb s₃ h₃ => ?_) fun q_ q_ h' => h')
  cases okb with
  | false => exact wpAny_pure ⟨rfl, h₃⟩
  | true => exact wpAny_bind (wpAny_bind (wpAny_mono h₃ (fun x s₄ h₄ => wpAny_bind (wpAny_mono h₄ (fun q_ s₅ h₅ => wpAny_pure (wpAny_pure ⟨rfl, h₅⟩)) fun q_ q_ h' => h')) fun q_ q_ h' => h'))
end
noncomputable def clos (env : Env) (names : List (Str × NameKind)) (acc : List (Str × Addr)) : List (Str × Addr) := ((names.filter fun p => p.2 == .free).map fun p => (p.1, (env.cells.lookup p.1).getD 0)).reverse ++ acc
theorem closureFor_eq {scope : Scope} {env : Env} (h : ∀ p ∈ scope.names, p.2 = .free → ∃ c, env.cells.lookup p.1 = some c) : closureFor scope env = pure (clos env scope.names []) := by
 have go : ∀ (names : List (Str × NameKind)) (acc : List (Str × Addr)), (∀ p ∈ names, p.2 = .free → ∃ c, env.cells.lookup p.1 = some c) →
   (forIn names acc (fun (p : Str × NameKind) r => (do
    if p.2 == .free then do
     let a ← cellOf env p.1
     pure (ForInStep.yield ((p.1, a) :: r))
    else pure (ForInStep.yield r) : Sem (ForInStep (List (Str × Addr)))))) = pure (clos env names acc) := fun names => by
  induction names with
  | nil => intro acc _; rfl
  | cons p r ih =>
   intro acc h
   have ih := fun acc => ih acc fun p m => h p (.tail _ m)
   rw [List.forIn_cons]
   unfold clos at ih ⊢
   cases q : p.2 == NameKind.free with
   | true =>
    obtain ⟨c, hc⟩ := h p (.head _) (eq_of_beq q)
    have e : cellOf env p.1 = pure c := by unfold cellOf; rw [hc]
    simp only [if_true, e, pure_bind, ih, List.filter_cons, q, List.map_cons, List.reverse_cons, List.append_assoc, hc, Option.getD_some, List.singleton_append]
   | false =>
    simp only [Bool.false_eq_true, if_false, pure_bind, ih, List.filter_cons, q]
 unfold closureFor
 simp only [bind_pure]
 exact go scope.names [] h
theorem clos_at {env : Env} {names : List (Str × NameKind)} {p : Str × Addr} : p ∈ clos env names [] ↔ (p.1, NameKind.free) ∈ names ∧ p.2 = (env.cells.lookup p.1).getD 0 := by
 unfold clos
 rw [List.append_nil, List.mem_reverse, List.mem_map]
 refine ⟨fun ⟨q, m, e⟩ => ?_, fun ⟨m, e⟩ => ⟨_, List.mem_filter.mpr ⟨m, rfl⟩, by rw [← e]⟩⟩
 obtain ⟨m, k⟩ := List.mem_filter.mp m
 have k := eq_of_beq k
 subst e
 exact ⟨by rw [← k]; exact m, rfl⟩
theorem clos_lookup {env : Env} {names : List (Str × NameKind)} {x : Str} (hm : (x, NameKind.free) ∈ names) : (clos env names []).lookup x = some ((env.cells.lookup x).getD 0) := by
 obtain ⟨c, h⟩ := lookup_of_mem' (clos_at (p := (x, (env.cells.lookup x).getD 0)).mpr ⟨hm, rfl⟩)
 rw [h, show c = _ from (clos_at.mp (mem_of_lookup h)).2]
theorem clos_nodup {env : Env} (hn : (env.cells.map (·.2)).Nodup) {names : List (Str × NameKind)} (nd : (names.map (·.1)).Nodup) (hc : ∀ p ∈ names, p.2 = .free → ∃ c, env.cells.lookup p.1 = some c) : ((clos env names []).map (·.2)).Nodup := by
 unfold clos
 rw [List.append_nil, List.map_reverse, List.map_map]
 refine (List.reverse_perm _).nodup_iff.mpr (List.pairwise_map.mpr (((List.pairwise_map.mp nd).filter _).imp_of_mem fun {p q} mp mq ne e => ne ?_))
 obtain ⟨mp, kp⟩ := List.mem_filter.mp mp
 obtain ⟨mq, kq⟩ := List.mem_filter.mp mq
 obtain ⟨c, ec⟩ := hc p mp (eq_of_beq kp)
 obtain ⟨d, ed⟩ := hc q mq (eq_of_beq kq)
 have e : c = d := by
  have e : (env.cells.lookup p.1).getD 0 = (env.cells.lookup q.1).getD 0 := e
  rw [ec, ed] at e; exact e
 subst e
 exact name_of_cell hn (mem_of_lookup ec) (mem_of_lookup ed)
noncomputable def relS (scope S : Scope) : Scope :=
 { scope with names := scope.names.map fun (n, k) => if (k == .free && S.kind == .function && S.names.lookup n == some .cell) then (n, .cell) else (n, k) }
noncomputable def compOk (scope S : Scope) : Bool := scope.kind == .function && decide ((scope.names.map (·.1)).Nodup) && scope.names.all fun p => p.2 != .cell && (p.2 != .free || S.names.lookup p.1 == some .cell)
noncomputable def inner (scope : Scope) (σ : Loc) : Loc := σ.filter fun p => scope.names.lookup p.1 == some .free
theorem lookup_inner {scope : Scope} {x : Str} {v : V} {σ : Loc} (h : (inner scope σ).lookup x = some v) : σ.lookup x = some v ∧ scope.names.lookup x = some .free := by
 unfold inner at h
 induction σ with
 | nil => cases h
 | cons p σ ih =>
  rw [List.filter_cons] at h
  cases q : scope.names.lookup p.1 == some .free with
  | true =>
   rw [q, if_pos rfl] at h
   simp only [List.lookup] at h ⊢
   cases e : x == p.1 with
   | true =>
    rw [e] at h
    exact ⟨h, by rw [eq_of_beq e]; exact eq_of_beq q⟩
   | false => rw [e] at h; exact ih h
  | false =>
   rw [q, if_neg (by decide)] at h
   have ih := ih h
   refine ⟨?_, ih.2⟩
   simp only [List.lookup]
   cases e : x == p.1 with
   | true => rw [← eq_of_beq e, ih.2] at q; cases q
   | false => exact ih.1
theorem lookup_of_nodup {α : Type} {x : Str} {y : α} {l : List (Str × α)} (nd : (l.map (·.1)).Nodup) (h : (x, y) ∈ l) : l.lookup x = some y := by
 induction l with
 | nil => cases h
 | cons p l ih =>
  have nd' := List.nodup_cons.mp nd
  simp only [List.lookup]
  rcases List.mem_cons.mp h with e | h
  ·cases e; rw [beq_self_eq_true]
  ·cases e : x == p.1 with
   | true =>
    rw [eq_of_beq e] at h
    exact absurd (List.mem_map_of_mem (f := (·.1)) h) nd'.1
   | false => exact ih nd'.2 h
theorem lookup_rel {S : Scope} {x : Str} {names : List (Str × NameKind)} : (names.map fun (n, k) => if (k == NameKind.free && S.kind == .function && S.names.lookup n == some .cell) then (n, NameKind.cell) else (n, k)).lookup x =
  (names.lookup x).map fun k => if (k == NameKind.free && S.kind == .function && S.names.lookup x == some .cell) then NameKind.cell else k := by
 induction names with
 | nil => rfl
 | cons p r ih =>
  have hp : (if (p.2 == NameKind.free && S.kind == .function && S.names.lookup p.1 == some .cell) = true then (p.1, NameKind.cell) else (p.1, p.2)) = (p.1, if (p.2 == NameKind.free && S.kind == .function && S.names.lookup p.1 == some .cell) = true then NameKind.cell else p.2) := by split <;> rfl
  show List.lookup x ((if (p.2 == NameKind.free && S.kind == .function && S.names.lookup p.1 == some .cell) = true then (p.1, NameKind.cell) else (p.1, p.2)) :: _) = Option.map _ (List.lookup x ((p.1, p.2) :: r))
  rw [hp, List.lookup_cons, List.lookup_cons]
  cases e : x == p.1 with
  | true => rw [← eq_of_beq e]; rfl
  | false => exact ih
section
variable {C : Ct} {n : Nat} {env : Env} {σ σ' σ1 : Loc} {H H' H0 H1 H2 H3 : List HObj}
theorem comp_frame {scope : Scope} {w : Wd} (F : FSt C w env σ) (B : BSt C w H) (ok : compOk scope env.scope = true) {L : Addr} {w' : Wd} (S : Step [] w w') (hL : w.h.get? L = none) (hn : w'.h.Ns L fun q_ => none) :
  closureFor scope env = pure (clos env scope.names []) ∧ (L ∉ w'.ρ → FSt C w' (compEnvC scope (clos env scope.names []) L env) (inner scope σ)) := by
 simp only [compOk, Bool.and_eq_true, beq_iff_eq, decide_eq_true_eq, List.all_eq_true, Bool.or_eq_true, bne_iff_ne, ne_eq] at ok
 obtain ⟨⟨hk, nd⟩, hall⟩ := ok
 have hfree : ∀ p ∈ scope.names, p.2 = .free → env.kindOf p.1 = some .cell := fun p m e => ((hall p m).2.resolve_left fun z => z e)
 have hcl : ∀ p ∈ scope.names, p.2 = .free → ∃ c, env.cells.lookup p.1 = some c := fun p m e => F.full _ (hfree p m e)
 refine ⟨closureFor_eq hcl, fun hLρ => ?_⟩
 have src : ∀ p ∈ clos env scope.names [], (p.1, NameKind.free) ∈ scope.names ∧ p ∈ env.cells := fun p m => by
  obtain ⟨h, e⟩ := clos_at.mp m
  obtain ⟨c, hc⟩ := hcl _ h rfl
  rw [hc] at e
  refine ⟨h, ?_⟩
  have := mem_of_lookup hc
  rw [show c = p.2 from e.symm] at this
  exact this
 have F' := F.step0 S
 have kof : ∀ x, (compEnvC scope (clos env scope.names []) L env).kindOf x = (scope.names.lookup x).map fun k => if (k == NameKind.free && env.scope.kind == .function && env.kindOf x == some .cell) then NameKind.cell else k := fun x => lookup_rel
 refine ⟨fun a m => ?_, F.glob, F.bltn, hk, ⟨_, hn, fun x v e => ?_⟩, hLρ, fun p m => F'.cells p (src p m).2, ?_, fun x e => ?_, fun a m => ?_⟩
 ·rcases List.mem_cons.mp m with rfl | m
  ·cases q : C.h₀.get? _ with
   | none => rfl
   | some o => have := B.stays _ o q; rw [show w.h.get? _ = _ from hL] at this; cases this
  ·obtain ⟨p, hp, rfl⟩ := List.mem_map.mp m
   exact F.own _ (.tail _ (List.mem_map_of_mem (f := (·.2)) (src p hp).2))
 ·obtain ⟨h1, h2⟩ := lookup_inner e
  have hm := mem_of_lookup h2
  have hkx := hfree _ hm rfl
  obtain ⟨m', hn', hs⟩ := F'.ns
  obtain ⟨y, hy, hv⟩ := hs x v h1
  refine ⟨y, ?_, hv⟩
  rcases hy with ⟨h, _⟩ | ⟨_, c, hc, hcell⟩
  ·rw [show env.kindOf x = _ from hkx] at h; cases h
  ·refine .inr ⟨.inl ?_, c, ?_, hcell⟩
   ·rw [kof, h2]
    simp [F.kind, show env.kindOf x = _ from hkx]
   ·show (clos env scope.names []).lookup x = some c
    rw [clos_lookup hm, hc]; rfl
 ·exact clos_nodup F.nodup nd hcl
 ·rw [kof] at e
  have : scope.names.lookup x = some .free := by
   cases q : scope.names.lookup x with
   | none => rw [q] at e; cases e
   | some k =>
    rw [q] at e
    by_cases z : k = .free
    ·rw [z]
    ·simp only [Option.map_some, beq_false_of_ne z, Bool.false_and, Bool.false_eq_true, if_false] at e
     exact absurd (Option.some.inj e) (hall _ (mem_of_lookup q)).1
  exact ⟨_, clos_lookup (mem_of_lookup this)⟩
 ·rcases List.mem_cons.mp m with rfl | m
  ·rw [S.pin]; intro q
   obtain ⟨_, o, ho⟩ := B.pins _ q
   rw [show w.h.get? _ = _ from hL] at ho; cases ho
  ·obtain ⟨p, hp, rfl⟩ := List.mem_map.mp m
   have hp' := (List.mem_filter.mp hp).1
   refine F'.pin _ (.tail _ (List.mem_map_of_mem (f := (·.2)) (List.mem_filter.mpr ⟨(src p hp').2, ?_⟩)))
   rw [hfree _ (src p hp').1 rfl]; rfl
end
end
section
section
variable {C : Ct} {n : Nat} {env : Env} {σ σ' σ1 : Loc} {H H' H0 H1 H2 H3 : List HObj} {pos : Pos} {v : V}
theorem appendAt {w : Wd} {i : Nat} {D : Addr} {l : List V} {r : V} {y : Value} {A : Around} {Q E : Value → Shared → Prop} (B : BSt C w H) (hD : w.ρ[i]? = some D) (hH : H[i]? = some (.list l)) (hy : VRel w r y) (hd : r.dat = true) (hlen : l.length ≤ sizeLine)
  (K : ∀ w', Step [] w w' → w'.ρ = w.ρ → BSt C w' (H.set i (.list (l ++ [r]))) → Q .none w'.s) : wpAny C.M A (call (.builtin "list.append") [.ref D, y]) Q E w.s := by
 obtain ⟨a, vs, m, h1, h2, h3, d⟩ := B.get hH
 obtain rfl := Option.some.inj (hD.symm.trans h1)
 refine wpAny_list_append_plain (items := vs.toArray) ⟨m, h2⟩ (fun h' hp hs => ?_) (by rw [List.size_toArray, h3.length]; exact hlen)
 obtain ⟨k, hk⟩ := hp
 have hk' : h'.get? D = some (lstObj (vs ++ [y]) k) := by rw [hk]; simp [lstObj]
 obtain ⟨B', S⟩ := B.set (s' := { w.s with heap := h' }) (o := .list (l ++ [r])) hD hs rfl rfl (Nat.le_refl _) ⟨_, hk'⟩ (fun S => .list hk' ((h3.step0 S).append (.cons (hy.step0 S) .nil)) (by rw [datL_append, d]; simp [datL, hd])) (fun q_ e => by cases e)
 exact K ⟨w.ρ, w.π, _⟩ S rfl B'
structure Free (C : Ct) (env : Env) (w0 w : Wd) (L : Addr) : Prop where
 fr : L ∉ fr env
 new : w0.h.get? L = none
 h₀ : C.h₀.get? L = none
 rho : L ∉ w.ρ
 pin : L ∉ w.π
noncomputable def SrcAt (C : Ct) (n : Nat) (A : Around) (env : Env) (σ : Loc) (w : Wd) (iter : PySem.Expr) (H1 : List HObj) (Ok : List HObj → Prop) (T : PySem.Expr → Bool) (l : List V) : Prop :=
 ∀ (Q E : Value → Shared → Prop), (∀ w1 w' it X P P' H0, Step [] w w1 → BSt C w1 H0 → FSt C w1 env σ → Step [] w1 w' → BSt C w' H1 → (∀ a ∈ X, w1.h.get? a = none) → NextB C n Ok T it X l P P' → P 0 w' → Q it w'.s) →
  wpAny C.M A (eval iter env) (fun y s => wpAny C.M A (pyIter y) Q E s) E w.s
theorem SrcE.at {iter : PySem.Expr} {Ok : List HObj → Prop} {T : PySem.Expr → Bool} {l : List V} {A : Around} {w : Wd} (he : SrcE C n env σ H iter H1 Ok T l) (R : Room A n) (B : BSt C w H) (F : FSt C w env σ) : SrcAt C n A env σ w iter H1 Ok T l := fun Q E K => he A w Q E R B F K
structure OwnL (Y : List Addr) (cenv : Env) (w1 : Wd) : Prop where
 own : ∀ w w' : Wd, Step Y w1 w → Step [cenv.locals] w w' → w'.ρ = w.ρ → Step Y w1 w'
 wid : ∀ w w' : Wd, (∃ o, w.h.get? cenv.locals = some o) → Step [] w w' → Step Y w w'
theorem OwnL.new {cenv : Env} {w1 : Wd} (h0 : w1.h.get? cenv.locals = none) : OwnL [] cenv w1 := ⟨fun q_ q_ S S' hr => S.mix S' hr fun a m => by rw [List.mem_singleton.mp m]; exact h0, fun q_ q_ q_ S => S⟩
theorem OwnL.old {cenv : Env} {w1 : Wd} : OwnL [cenv.locals] cenv w1 := ⟨fun q_ q_ S S' q_ => S.trans S', fun q_ q_ h S => S.wide fun q m => by rw [List.mem_singleton.mp m]; exact h⟩
noncomputable def LoopRule (prog : Program) (W : World) (e : PySem.Expr) (d : Nat) (elt target : PySem.Expr) (ifs : List PySem.Expr) : Prop :=
 ∀ (A : Around) (R : Result → Shared → Prop) (it acc : Value) (env : Env) (s : Shared) (I : Nat → Shared → Prop), (∀ n s, I n s → CompGoal prog W A R elt target ifs it acc env (fun s => ∃ m, m < n ∧ I m s) s) → ∀ n, I n s → codeAny (model prog W) A (.compLoop e d it acc env) R s
theorem LoopRule.one {prog : Program} {W : World} {elt target iter : PySem.Expr} {ifs : List PySem.Expr} {scope : Scope} {pos : Pos} : LoopRule prog W (.ListComp elt [⟨target, iter, ifs, 0⟩] scope pos) 0 elt target ifs := fun q_ q_ q_ q_ q_ q_ I turn n h => codeAny_compLoopL I turn n h
theorem comp_laid {Y : List Addr} {cenv : Env} {Ok : List HObj → Prop} {T : PySem.Expr → Bool} {it : Value} {X : List Addr} {l : List V} {P : Nat → Wd → Prop} {P' : Nat → Value → Wd → Prop} (N : NextB C n Ok T it X l P P') {i : Nat} {w1 w7 w8 : Wd}
  (h : ForAt C cenv Y X w1 w1 w7 H σ) (p : P i w7) (S : Step [cenv.locals] w7 w8) (B : BSt C w8 H0) (F : FSt C w8 cenv σ1) (hL : OwnL Y cenv w1) (hH : H0.length = H.length) : w8.ρ = w7.ρ ∧ ForAt C cenv Y X w1 w1 w8 H0 σ1 ∧ P i w8 := by
 have hr : w8.ρ = w7.ρ := by
  obtain ⟨δ, e, _⟩ := S.rho
  have l8 := B.len
  rw [e, List.length_append, h.B.len, hH] at l8
  rw [e, List.eq_nil_of_length_eq_zero (by lia : δ.length = 0), List.append_nil]
 have a := N.apart p h.B h.F h.pi
 exact ⟨hr, ⟨h.new, h.stays, h.pins, h.S1, hL.own _ _ h.S0 S hr, hL.own _ _ h.S S hr, B, F⟩, N.mono i w7 w8 [cenv.locals] p S (fun a m => by rw [List.mem_singleton.mp m]; exact h.F.nonSeq _ (.head _)) (fun q m z => a.1 q m (by rw [List.mem_singleton.mp z]; exact .head _)) a.2.1⟩
inductive CompI (C : Ct) (n : Nat) (cenv : Env) (target : PySem.Expr) (ifs : List PySem.Expr) (elt : PySem.Expr) (σ : Loc) (H1 : List HObj) (Y X : List Addr) (l rs : List V) (P : Nat → Wd → Prop) (w1 : Wd) (D : Addr) (b j : Nat) (s' : Shared) : Prop
 | mk (w' : Wd) (acc : List V) (i : Nat) (rs' : List V) : s' = w'.s → ForAt C cenv Y X w1 w1 w' (H1 ++ [.list acc]) σ → P i w' → i ≤ l.length → j = (l.drop i).length → Co C n cenv target ifs elt σ H1 (l.drop i) rs' → acc ++ rs' = rs → acc.length ≤ b + i → w'.ρ[H1.length]? = some D → CompI C n cenv target ifs elt σ H1 Y X l rs P w1 D b j s'
theorem ite_t {p q : Prop} (h : p) : if true = true then p else q := h
theorem ite_f {p q : Prop} (h : q) : if false = true then p else q := h
theorem comp_go {b : Nat} {Y : List Addr} {elt target : PySem.Expr} {ifs : List PySem.Expr} {Ok : List HObj → Prop} {T : PySem.Expr → Bool} {L l acc rs : List V} {A : Around} {cenv : Env} {it : Value} {X : List Addr} {P : Nat → Wd → Prop} {P' : Nat → Value → Wd → Prop} {w1 w5 : Wd} {D : Addr} {i : Nat} {R' : Result → Shared → Prop} {Nx : Shared → Prop}
  (N : NextB C n Ok T it X L P P') (R : Room A n) (hT : T target = true) (hOk : ∀ K, Ok (H1 ++ K)) (hlen : b + L.length ≤ sizeLine) (hL : OwnL Y cenv w1) (h5 : ForAt C cenv Y X w1 w1 w5 (H1 ++ [.list acc]) σ) (p5 : P i w5) (hi : i ≤ L.length) (hl : L.drop i = l)
  (hco : Co C n cenv target ifs elt σ H1 l rs) (hai : acc.length ≤ b + i) (hρ5 : w5.ρ[H1.length]? = some D)
  (K : rs = [] → ∀ w6, ForAt C cenv Y X w1 w1 w6 (H1 ++ [.list acc]) σ → w6.ρ[H1.length]? = some D → R' (.ok .next) w6.s)
  (hN : ∀ w' acc' rs', acc' ++ rs' = acc ++ rs → ForAt C cenv Y X w1 w1 w' (H1 ++ [.list acc']) σ → P (i + 1) w' → i + 1 ≤ L.length → Co C n cenv target ifs elt σ H1 (L.drop (i + 1)) rs' → acc'.length ≤ b + (i + 1) → w'.ρ[H1.length]? = some D → Nx w'.s) :
  CompGoal C.prog C.w A R' elt target ifs it (.ref D) cenv Nx w5.s := by
 cases l with
 | nil =>
  have hlen' : i = L.length := Nat.le_antisymm hi (List.drop_eq_nil_iff.mp hl)
  subst hlen'
  exact N.fin A w5 _ _ _ R h5.B (hOk _) p5 (N.apart p5 h5.B h5.F h5.pi).2.2 h5.low fun w6 S56 hr ht => K hco.nilv w6 (h5.back (N.fld _ _ p5) S56 hr ht) (by rw [hr]; exact hρ5)
 | cons v l =>
  cases hco.uncons with
  | cons σ0 r rs' ha ht he hd hsub hr2 hrs =>
   refine turn_own N h5 R hT hl (hOk _) p5 (fun w7 y h7 p7 r7 hr7 hdrop hlt => ha _ A w7 y _ _ R h7.B h7.F r7 fun w8 S78 B8 F8 => ht _ A w8 _ _ R B8 F8 fun w9 S89 B9 F9 => ite_t (he _ A w9 _ _ R B9 F9 fun w10 z S910 B10 F10 r10 => ?_)) (fun q_ q_ q => q)
   have c := comp_laid N h7 p7 S78 B8 F8 hL rfl
   have d10 : w10.ρ[H1.length]? = some D := S910.at (S89.at (by rw [c.1, hr7]; exact hρ5))
   have hset : ∀ u, (H1 ++ [HObj.list acc]).set H1.length u = H1 ++ [u] := fun u => by simp
   exact appendAt (l := acc) B10 d10 (by simp) r10 hd (Nat.le_trans hai (Nat.le_trans (Nat.add_le_add_left hi b) hlen)) fun w11 S1011 hr11 B11 =>
    have S := (S89.trans S910).trans S1011
    hN w11 (acc ++ [r]) rs' (by rw [hrs, List.append_assoc]; rfl) (c.2.1.go (hL.wid _ _ (F8.alive _ (.head _)) S) (hset (.list (acc ++ [r])) ▸ B11) ((F10.weak hsub).step0 S1011)) (N.mono (i + 1) w8 w11 [] c.2.2 S .nil (fun q_ q_ z => nomatch z) (N.apart c.2.2 B8 F8 c.2.1.pi).2.1) hlt (hdrop ▸ hr2)
     (by rw [List.length_append]; exact Nat.succ_le_succ hai) (by rw [hr11]; exact d10)
  | skip σ0 ha ht hsub hr2 =>
   exact turn_own N h5 R hT hl (hOk _) p5 (fun w7 y h7 p7 r7 hr7 hdrop hlt => ha _ A w7 y _ _ R h7.B h7.F r7 fun w8 S78 B8 F8 => ht _ A w8 _ _ R B8 F8 fun w9 S89 B9 F9 => ite_f
    (have c := comp_laid N h7 p7 S78 B8 F8 hL rfl
    hN w9 acc rs rfl (c.2.1.go (hL.wid _ _ (F8.alive _ (.head _)) S89) B9 (F9.weak hsub)) (N.mono (i + 1) w8 w9 [] c.2.2 S89 .nil (fun q_ q_ z => nomatch z) (N.apart c.2.2 B8 F8 c.2.1.pi).2.1) hlt (hdrop ▸ hr2) (Nat.le_succ_of_le hai) (S89.at (by rw [c.1, hr7]; exact hρ5)))) (fun q_ q_ q => q)
theorem comp_loop {b : Nat} {Y : List Addr} {ex elt target : PySem.Expr} {d : Nat} {ifs : List PySem.Expr} {Ok : List HObj → Prop} {T : PySem.Expr → Bool} {l acc rs : List V} (hrule : LoopRule C.prog C.w ex d elt target ifs) (hT : T target = true) (hOk : ∀ K, Ok (H1 ++ K)) (hlen : b + l.length ≤ sizeLine) {A : Around} {cenv : Env} {it : Value} {X : List Addr} {P : Nat → Wd → Prop} {P' : Nat → Value → Wd → Prop} {w1 w4 : Wd} {D : Addr} {R' : Result → Shared → Prop}
  (N : NextB C n Ok T it X l P P') (R : Room A n) (h4 : ForAt C cenv Y X w1 w1 w4 (H1 ++ [.list acc]) σ) (p4 : P 0 w4) (hρ : w4.ρ[H1.length]? = some D) (hL : OwnL Y cenv w1) (ha : acc.length ≤ b) (hco : Co C n cenv target ifs elt σ H1 l rs)
  (K : ∀ w6, ForAt C cenv Y X w1 w1 w6 (H1 ++ [.list (acc ++ rs)]) σ → w6.ρ[H1.length]? = some D → R' (.ok .next) w6.s) : codeAny C.M A (.compLoop ex d it (.ref D) cenv) R' w4.s := by
 refine hrule A R' it (.ref D) cenv w4.s (CompI C n cenv target ifs elt σ H1 Y X l (acc ++ rs) P w1 D b) (fun j s I => ?_) l.length ⟨w4, acc, 0, rs, rfl, h4, p4, Nat.zero_le _, rfl, hco, rfl, ha, hρ⟩
 obtain ⟨w5, acc5, i, rs5, rfl, h5, p5, hi, rfl, hco5, hacc, hai, hρ5⟩ := I
 exact comp_go N R hT hOk hlen hL h5 p5 hi rfl hco5 hai hρ5 (fun z w6 h6 d6 => K w6 (by rw [z, List.append_nil] at hacc; exact hacc ▸ h6) d6) fun w' acc' rs' e h p hi' hc ha hd => ⟨_, drop_lt hi', w', acc', i + 1, rs', rfl, h, p, hi', rfl, hc, e.trans hacc, ha, hd⟩
theorem NextB.hard {Ok : List HObj → Prop} {T : PySem.Expr → Bool} {it : Value} {X : List Addr} {l : List V} {P : Nat → Wd → Prop} {P' : Nat → Value → Wd → Prop} (N : NextB C n Ok T it X l P P') {i : Nat} {w w' : Wd} (p : P i w) (B : BSt C w H) (S : Step [] w w') : P i w' :=
 N.mono i w w' [] p S .nil (fun q_ q_ z => nomatch z) fun a m q => by
  obtain ⟨o, vs, T, ho, hd, hc, hT⟩ := N.fld i w p a m
  obtain ⟨j, hj⟩ := List.getElem?_of_mem q
  have hl : j < H.length := by rw [← B.len]; exact (List.getElem?_eq_some_iff.mp hj).1
  exact (B.obj j a _ hj (List.getElem?_eq_getElem hl)).hard ho hd hc hT
theorem Step.none0 {w w' : Wd} (S : Step [] w w') {L : Addr} (h : w'.h.get? L = none) : w.h.get? L = none := by
 cases e : w.h.get? L with
 | none => rfl
 | some o =>
  obtain ⟨o', e'⟩ := S.live L o e fun z => nomatch z
  exact nomatch h.symm.trans e'
theorem new_tracked {w2 : Wd} (B2 : BSt C w2 H) : ∃ w3 : Wd, w3.s = { w2.s with heap := w2.s.heap.push { cls := .type "list", data := .seq ([] : List Value).toArray } } ∧ BSt C w3 (H ++ [.list []]) ∧ Step [] w2 w3 ∧ w3.ρ[H.length]? = some w2.s.heap.objs.size := by
 obtain ⟨B3, S3⟩ := B2.track (a := w2.s.heap.objs.size) (s' := { w2.s with heap := w2.s.heap.push { cls := .type "list", data := .seq ([] : List Value).toArray } }) (o := .list []) (fun b ob e => Heap.get?_push_of_some _ e) rfl rfl (Nat.le_refl _) (size_none _) B2.size3 (fun q_ => .list (n := 0) (vs := []) (Heap.get?_push_size _ rfl) .nil rfl) (fun q_ e => by cases e)
 exact ⟨_, rfl, B3, S3, by rw [← B2.len]; simp⟩
theorem comp_coreG {scope : Scope} {elt target iter : PySem.Expr} {ifs : List PySem.Expr} {gs : List Comprehension} {Ok : List HObj → Prop} {T : PySem.Expr → Bool} {l rs : List V} (ok : compOk scope env.scope = true)
  (loop : ∀ {A : Around} {cenv : Env} {it : Value} {X : List Addr} {P : Nat → Wd → Prop} {P' : Nat → Value → Wd → Prop} {w1 w4 : Wd} {D : Addr} {R' : Result → Shared → Prop}, cenv.scope = relS scope env.scope → NextB C n Ok T it X l P P' → Room A n → ForAt C cenv [] X w1 w1 w4 (H1 ++ [.list []]) (inner scope σ) → P 0 w4 → w4.ρ[H1.length]? = some D → w1.h.get? cenv.locals = none →
   (∀ w6, ForAt C cenv [] X w1 w1 w6 (H1 ++ [.list rs]) (inner scope σ) → w6.ρ[H1.length]? = some D → R' (.ok .next) w6.s) → codeAny C.M A (.compLoop (.ListComp elt (⟨target, iter, ifs, 0⟩ :: gs) scope pos) 0 it (.ref D) cenv) R' w4.s)
  (hfold : ∀ (env : Env) x, foldedSetIterable iter env x = pure x)
  {A : Around} {w : Wd} {Q E : Value → Shared → Prop} {use : Option (Value → Sem Unit)} {pos' : Pos} (R : Room A n) (F : FSt C w env σ) (he : SrcAt C n A env σ w iter H1 Ok T l)
  (K : ∀ w' L D m, Step [] w w' → BSt C w' (H1 ++ [.list rs]) → FSt C w' env σ → w'.ρ[H1.length]? = some D → w'.h.Ns L m → Free C env w w' L → Cl H1 → compPost C.M A E use Q (.ref D) L (.ok .next) w'.s) :
  wpAny C.M A (comprehension (.ListComp elt (⟨target, iter, ifs, 0⟩ :: gs) scope pos) scope env pos' (newList []) false (eval iter env) use) Q E w.s := by
 have okk := ok
 simp only [compOk, Bool.and_eq_true, beq_iff_eq, decide_eq_true_eq, List.all_eq_true, Bool.or_eq_true, bne_iff_ne, ne_eq] at okk
 obtain ⟨⟨hk, nd⟩, hall⟩ := okk
 have hcl : closureFor scope env = pure (clos env scope.names []) := closureFor_eq fun p m e => F.full _ ((hall p m).2.resolve_left fun z => z e)
 refine wpAny_comprehension_free (use := use) rfl (hfold env) hcl hk (fun x m e => lookup_of_nodup nd (by rw [← e]; exact m)) ?_
 refine he _ E fun w1 w2 it X P P' H0 S1 B1 F1 S2 B2 hX N p2 => ?_
 refine wpAny_newObj_type ?_
 obtain ⟨w3, es3, B3, S3, hρ3⟩ := new_tracked B2
 rw [← es3]
 have F3 := (F1.step0 S2).step0 S3
 have p3 := N.hard p2 B2 S3
 generalize w2.s.heap.objs.size = D at hρ3 ⊢
 clear es3 he p2
 refine wpAny_newFunctionEnv (fun x m => (hall x m).1) (by intro x hx; cases hx) (fun h4 hn4 hs4 => ?_) hk
 generalize hL : w3.s.heap.objs.size = L at hn4 hs4
 have hLn : w3.h.get? L = none := by rw [← hL]; exact size_none _
 have X4 : Ext w3 ⟨w3.ρ, w3.π, { w3.s with heap := h4, toks := w3.s.toks + ([] : List (Str × Value)).length }⟩ := ⟨rfl, fun b o e => (hs4.2 b fun q => by rw [q, hLn] at e; cases e).trans (Heap.get?_push_of_some _ e), rfl, rfl, rfl, Nat.le_refl _⟩
 have F4 := (comp_frame F3 B3 ok (X4.step (X := [])) hLn hn4).2 (B3.fresh hLn)
 have S13 := S2.trans S3
 have S14 := S13.trans X4.step
 have p4 := N.hard p3 B3 X4.step
 have B4 := B3.ext X4
 have hL1 := S13.none0 hLn
 have hf1 : L ∉ fr env := fun m => by
  obtain ⟨o, e⟩ := F3.alive L m
  exact nomatch hLn.symm.trans e
 have hf2 := S1.none0 hL1
 show codeAny C.M A (.compStart (.ListComp elt (⟨target, iter, ifs, 0⟩ :: gs) scope pos) 0 it (.ref D) (compEnvC scope (clos env scope.names []) L env)) (compPost C.M A E use Q (.ref D) L) _
 have loop := loop (A := A) (cenv := compEnvC scope (clos env scope.names []) L env) (it := it) (R' := compPost C.M A E use Q (.ref D) L) rfl N R ⟨hX, B1.stays, fun a m => (B1.pins a m).2, Step.refl _ _, S14, S14, B4, F4⟩ p4 hρ3 hL1 fun w6 h6 hρ6 => by
  obtain ⟨m, hm, _⟩ := h6.F.ns
  exact K w6 L D m (S1.trans h6.S) h6.B (F1.step0 h6.S) hρ6 hm ⟨hf1, hf2, h6.F.own _ (.head _), h6.F.out, h6.F.pin _ (.head _)⟩ B2.tops
 exact codeAny_compStart_list loop (N.self A _ _ _ R p4 loop)
theorem comp_core {scope : Scope} {elt target iter : PySem.Expr} {ifs : List PySem.Expr} {Ok : List HObj → Prop} {T : PySem.Expr → Bool} {l rs : List V} (hT : T target = true) (hOk : ∀ K, Ok (H1 ++ K)) (ok : compOk scope env.scope = true)
  (hco : ∀ cenv : Env, cenv.scope = relS scope env.scope → Co C n cenv target ifs elt (inner scope σ) H1 l rs) (hlen : l.length ≤ sizeLine) (hfold : ∀ (env : Env) x, foldedSetIterable iter env x = pure x)
  {A : Around} {w : Wd} {Q E : Value → Shared → Prop} {use : Option (Value → Sem Unit)} {pos' : Pos} (R : Room A n) (F : FSt C w env σ) (he : SrcAt C n A env σ w iter H1 Ok T l)
  (K : ∀ w' L D m, Step [] w w' → BSt C w' (H1 ++ [.list rs]) → FSt C w' env σ → w'.ρ[H1.length]? = some D → w'.h.Ns L m → Free C env w w' L → Cl H1 → compPost C.M A E use Q (.ref D) L (.ok .next) w'.s) :
  wpAny C.M A (comprehension (.ListComp elt [⟨target, iter, ifs, 0⟩] scope pos) scope env pos' (newList []) false (eval iter env) use) Q E w.s := by
 exact comp_coreG ok (fun h N R h4 p4 hρ hL K => comp_loop (b := 0) (acc := []) .one hT hOk (by rw [Nat.zero_add]; exact hlen) N R h4 p4 hρ (.new hL) (Nat.le_refl 0) (hco _ h) K) hfold R F he K
theorem letgo {w0 w : Wd} {L : Addr} {m : Str → Option Value} {H : List HObj} {σ : Loc} (f : Free C env w0 w L) (hn : w.h.Ns L m) (B : BSt C w H) (F : FSt C w env σ) {X : List Addr} (S : Step X w0 w) {h' : Heap} (hs : Heap.SameBut L w.s.heap h') :
  ∃ w', w'.s = { w.s with heap := h' } ∧ w'.ρ = w.ρ ∧ BSt C w' H ∧ FSt C w' env σ ∧ Step X w0 w' := by
 have S67 : Step [L] w ⟨w.ρ, w.π, { w.s with heap := h' }⟩ := ⟨⟨[], by simp, by simp⟩, fun b o e q_ q => (hs.2 b fun z => q (z ▸ .head _)).trans e, fun b o e q => ⟨o, (hs.2 b fun z => q (z ▸ .head _)).trans e⟩, rfl, rfl, rfl, Nat.le_refl _⟩
 have hNS : NonSeq w [L] := fun a q => by
  rw [List.mem_singleton.mp q]
  refine ⟨f.pin, fun o ho => ?_⟩
  obtain ⟨o', es, ep, ho', hd, _⟩ := hn
  obtain rfl := Option.some.inj (ho.symm.trans ho'); exact .inr (.inl ⟨_, _, hd⟩)
 exact ⟨⟨w.ρ, w.π, { w.s with heap := h' }⟩, rfl, rfl, B.turn hNS S67 rfl (fun a o e m => by rw [List.mem_singleton.mp m, f.h₀] at e; cases e) fun a q o e => (hs.2 a fun z => f.rho (z ▸ q)).trans e,
  F.step hNS (fun a q z => f.fr (by rw [← List.mem_singleton.mp z]; exact q)) S67, S.mix S67 rfl fun a q => by rw [List.mem_singleton.mp q]; exact f.new⟩
theorem Ev.compAt {scope : Scope} {elt target iter : PySem.Expr} {ifs : List PySem.Expr} {Ok : List HObj → Prop} {T : PySem.Expr → Bool} {l rs : List V} (hT : T target = true) (hOk : ∀ K, Ok (H1 ++ K)) (ok : compOk scope env.scope = true)
  (hco : ∀ cenv : Env, cenv.scope = relS scope env.scope → Co C n cenv target ifs elt (inner scope σ) H1 l rs) (hlen : l.length ≤ sizeLine) (hfold : ∀ (env : Env) x, foldedSetIterable iter env x = pure x)
  {A : Around} {w : Wd} {Q E : Value → Shared → Prop} (hH : w.ρ.length ≤ H1.length) (R : Room A n) (F0 : FSt C w env σ) (he : SrcAt C n A env σ w iter H1 Ok T l)
  (K : ∀ w' y, Step [] w w' → BSt C w' H1 → FSt C w' env σ → VRel w' (.lst rs) y → Q y w'.s) : wpAny C.M A (eval (.ListComp elt [⟨target, iter, ifs, 0⟩] scope pos) env) (fun v s => Q v s) E w.s := by
 rw [eval_ListComp]
 refine comp_core (use := Option.none) hT hOk ok hco hlen hfold R F0 he fun w0 L D m S B' F' h hn f hcl => ⟨m, hn, fun h' hs' => ?_⟩
 obtain ⟨w', e7, r7, B', F, S⟩ := letgo f hn B' F' S hs'
 rw [← e7]
 rw [← r7] at h
 have B'' := (B'.lower H1.length (by rw [List.take_left]; exact hcl) (by simp)).1
 rw [List.take_left] at B''
 have S' := S.lower (m := H1.length) hH
 exact K ⟨w'.ρ.take H1.length, w'.π, w'.s⟩ _ S' B'' (F0.step0 S') (Fz.rel (H := H1 ++ [.list rs]) B' (.lst (by simp) (Nat.le_refl _)) (.ref h))
theorem Ev.comp {scope : Scope} {elt target iter : PySem.Expr} {ifs : List PySem.Expr} {Ok : List HObj → Prop} {T : PySem.Expr → Bool} {l rs : List V} (he : SrcE C n env σ H iter H1 Ok T l) (hT : T target = true) (hOk : ∀ K, Ok (H1 ++ K)) (ok : compOk scope env.scope = true)
  (hco : ∀ cenv : Env, cenv.scope = relS scope env.scope → Co C n cenv target ifs elt (inner scope σ) H1 l rs) (hlen : l.length ≤ sizeLine) (hfold : ∀ (env : Env) x, foldedSetIterable iter env x = pure x) (hH : H.length ≤ H1.length) :
  Ev C n env σ H (.ListComp elt [⟨target, iter, ifs, 0⟩] scope pos) H1 (.lst rs) := by
 intro A w Q E R B F0 K
 rw [eval_ListComp]
 refine comp_core (use := Option.none) hT hOk ok hco hlen hfold R F0 (he.at R B F0) fun w0 L D m S B' F' h hn f hcl => ⟨m, hn, fun h' hs' => ?_⟩
 obtain ⟨w', e7, r7, B', F, S⟩ := letgo f hn B' F' S hs'
 rw [← e7]
 rw [← r7] at h
 have B'' := (B'.lower H1.length (by rw [List.take_left]; exact hcl) (by simp)).1
 rw [List.take_left] at B''
 have S' := S.lower (m := H1.length) (by rw [B.len]; exact hH)
 exact K ⟨w'.ρ.take H1.length, w'.π, w'.s⟩ _ S' B'' (F0.step0 S') (Fz.rel (H := H1 ++ [.list rs]) B' (.lst (by simp) (Nat.le_refl _)) (.ref h))
theorem Es.comp {scope : Scope} {elt target iter : PySem.Expr} {ifs : List PySem.Expr} {Ok : List HObj → Prop} {T : PySem.Expr → Bool} {l rs : List V} {x : Str} {pos' spos : Pos} (he : SrcE C n env σ H iter H1 Ok T l) (hT : T target = true) (hOk : ∀ K, Ok (H1 ++ K)) (ok : compOk scope env.scope = true)
  (hco : ∀ cenv : Env, cenv.scope = relS scope env.scope → Co C n cenv target ifs elt (inner scope σ) H1 l rs) (hlen : l.length ≤ sizeLine) (hfold : ∀ (env : Env) x, foldedSetIterable iter env x = pure x) (hH : H.length ≤ H1.length) (hk : Sto env x)
  (hsw : swapsWith (.ListComp elt [⟨target, iter, ifs, 0⟩] scope pos) (some (.Name x pos')) spos.line env = pure true) :
  Es C n env σ H (.Assign [.Name x pos'] (.ListComp elt [⟨target, iter, ifs, 0⟩] scope pos) spos) (.next ((x, .lst rs) :: σ) H1) := by
 intro A w Q E R B F K
 rw [exec_Assign_Name_used _ _ _ _ hsw]
 refine wpAny_bind (wpAny_standAt (wpAny_bind ?_))
 show wpAny _ A (do let _ ← comprehension (.ListComp elt [⟨target, iter, ifs, 0⟩] scope pos) scope env _ (newList []) false (eval iter env) (some (PySem.assign (.Name x pos') env))) _ _ w.s
 refine wpAny_bind (wpAny_mono (comp_core (use := some (PySem.assign (.Name x pos') env)) (Q := fun q_ s' => Q .next s') hT hOk ok hco hlen hfold R F (he.at R B F) fun w' L D m S B' F' h hn f hcl => ?_) (fun q_ s' hq => wpAny_pure (wpAny_pure hq)) fun q_ q_ e => e)
 have B'' := (B'.lower H1.length (by rw [List.take_left]; exact hcl) (by simp)).1
 rw [List.take_left] at B''
 have S' := S.lower (m := H1.length) (by rw [B.len]; exact hH)
 have F'' := F.step0 S'
 have r'' := Fz.rel (H := H1 ++ [.list rs]) (m := H1.length) (v' := .lst rs) B' (.lst (by simp) (Nat.le_refl _)) (.ref h)
 have f'' : Free C env w ⟨w'.ρ.take H1.length, w'.π, w'.s⟩ L := ⟨f.fr, f.new, f.h₀, fun z => f.rho (List.mem_of_mem_take z), f.pin⟩
 refine wpAny_assign_Name (store (w := ⟨w'.ρ.take H1.length, w'.π, w'.s⟩) B'' F'' r'' hk fun w7 S7 B7 F7 => ?_)
 obtain ⟨o, es, ep, ho, hd⟩ := hn
 have ho7 := S7.keep L o ho f''.rho fun z => f.fr (fw_fr z)
 refine ⟨m, ⟨o, es, ep, ho7, hd⟩, fun h' hs' => ?_⟩
 have f7 : Free C env w w7 L := ⟨f.fr, f.new, f.h₀, S7.notin ho f''.rho, by rw [S7.pin]; exact f.pin⟩
 obtain ⟨w8, e8, r8, B8, F8, S8⟩ := letgo f7 ⟨o, es, ep, ho7, hd⟩ B7 F7 (F.swide S' S7) hs'
 rw [← e8]
 exact K w8 _ S8 (.next B8 F8)
end
end
section
noncomputable def AsL (C : Ct) (n : Nat) (env : Env) (X : List Addr) (ts : List PySem.Expr) (vs : List V) (σ : Loc) (H : List HObj) (σ' : Loc) : Prop :=
 (assignEach ts env).length = vs.length ∧ (assignEach ts env).findIdx? (·.1) = none ∧ ∀ (A : Around) (w : Wd) (ys : List Value) (Q : Unit → Shared → Prop) (E : Value → Shared → Prop), Room A n → BSt C w H → FSt C w env σ → (∀ {w : Wd} {σ : Loc}, FSt C w env σ → NonSeq w X) → VRels w vs ys →
  (∀ w', Step X w w' → BSt C w' H → FSt C w' env σ' → Q () w'.s) → wpAny C.M A (assignInOrder ((assignEach ts env).map (·.2)) ys) Q E w.s
section
variable {C : Ct} {n : Nat} {env : Env} {σ σ' σ1 : Loc} {H H' H0 H1 H2 H3 : List HObj} {pos p pos' tpos : Pos} {k : Nat} {x : Str} {v v1 v2 v3 : V} {e e1 e2 e3 : PySem.Expr} {o : Out} {es : List PySem.Expr} {vs : List V}
theorem Ev.tup (h : EvL C n env σ H pos es H1 vs) (hl : vs.length ≤ sizeLine := by first | exact Nat.le_of_ble_eq_true rfl | (simp; done) | (simp; omega)) : Ev C n env σ H (.Tuple es k pos) H1 (.tup vs) := by
 intro A w Q E R B F K
 refine wpAny_Tuple (h A w _ E R B F fun w1 ys S1 B1 F1 r1 => ⟨by rw [r1.length]; exact hl, ?_⟩)
 have X : Ext w1 ⟨w1.ρ, w1.π, { w1.s with heap := w1.s.heap.push { cls := .type "tuple", data := .seq ys.toArray } }⟩ := Ext.push _
 exact K ⟨w1.ρ, w1.π, _⟩ _ (S1.trans X.step) (B1.ext X) (F1.ext X) (.tup (n := 0) (Heap.get?_push_size _ rfl) (B1.fresh (size_none _)) (r1.ext X))
theorem Ev.lst (h : EvL C n env σ H pos es H1 vs) (hl : vs.length ≤ sizeLine := by first | exact Nat.le_of_ble_eq_true rfl | (simp; done) | (simp; omega)) : Ev C n env σ H (.List es pos) H1 (.lst vs) := by
 intro A w Q E R B F K
 refine wpAny_List (h A w _ E R B F fun w1 ys S1 B1 F1 r1 => ⟨by rw [r1.length]; exact hl, ?_⟩)
 have X : Ext w1 ⟨w1.ρ, w1.π, { w1.s with heap := w1.s.heap.push { cls := .type "list", data := .seq ys.toArray } }⟩ := Ext.push _
 exact K ⟨w1.ρ, w1.π, _⟩ _ (S1.trans X.step) (B1.ext X) (F1.ext X) (.lst (n := 0) (Heap.get?_push_size _ rfl) (B1.fresh (size_none _)) (r1.ext X))
theorem Ev.lstT (h : EvL C n env σ H pos es H1 vs) (hl : vs.length ≤ sizeLine) (hd : datL vs = true) : Ev C n env σ H (.List es pos) (H1 ++ [.list vs]) (.ref H1.length) := by
 intro A w Q E R B F K
 refine wpAny_List (h A w _ E R B F fun w1 ys S1 B1 F1 r1 => ⟨by rw [r1.length]; exact hl, ?_⟩)
 have X : Ext w1 ⟨w1.ρ, w1.π, { w1.s with heap := w1.s.heap.push { cls := .type "list", data := .seq ys.toArray } }⟩ := Ext.push _
 have hk : (w1.s.heap.push { cls := .type "list", data := .seq ys.toArray }).get? w1.s.heap.objs.size = some (lstObj ys 0) := Heap.get?_push_size _ rfl
 obtain ⟨B2, S2⟩ := B1.track (s' := { w1.s with heap := w1.s.heap.push { cls := .type "list", data := .seq ys.toArray } }) (a := w1.s.heap.objs.size) (o := .list vs) (fun b ob e => Heap.get?_push_of_some _ e) rfl rfl (Nat.le_refl _) (size_none _) B1.size3
  (fun S => .list hk (r1.step0 S) hd) (fun q_ e => by cases e)
 exact K _ _ (S1.trans S2) B2 (F1.step0 S2) (.ref (by rw [← B1.len]; simp))
theorem AsL.nil {X : List Addr} : AsL C n env X [] [] σ H σ := ⟨rfl, rfl, fun A w ys Q E R B F q_ r K => by cases r.inv0; exact assignInOrder_nil (K w (Step.refl _ _) B F)⟩
theorem AsL.cons {X : List Addr} {t : PySem.Expr} {ts : List PySem.Expr} {σ2 : Loc} (ha : Ast C n env X t v σ H σ1) (h : AsL C n env X ts vs σ1 H σ2) (he : ∀ env : Env, assignEach (t :: ts) env = (false, PySem.assign t env) :: assignEach ts env := by exact fun q_ => rfl) : AsL C n env X (t :: ts) (v :: vs) σ H σ2 := by
 obtain ⟨h1, h2, h3⟩ := h
 refine ⟨by rw [he]; exact congrArg (· + 1) h1, by rw [he, List.findIdx?_cons, h2]; rfl, fun A w ys Q E R B F hX r K => ?_⟩
 obtain ⟨_, _, rfl, r0, r1⟩ := r.inv
 rw [he]
 exact assignInOrder_cons (ha A w _ _ E R B F r0 fun w1 S1 B1 F1 => h3 A w1 _ Q E R B1 F1 hX (r1.step (hX F) S1) fun w2 S2 B2 F2 => K w2 (S1.trans S2) B2 F2)
end
end
section
noncomputable def Aug (C : Ct) (n : Nat) (op : Operator) (a b : V) (H H' : List HObj) (v : V) : Prop :=
 ∀ (A : Around) (w : Wd) (Q E : Value → Shared → Prop) (x y : Value), Room A n → BSt C w H → VRel w a x → VRel w b y →
  (∀ w' r, Step [] w w' → BSt C w' H' → VRel w' v r → Q r w'.s) → wpAny C.M A (inplaceOp op x y) Q E w.s
noncomputable def BoV (C : Ct) (n : Nat) (env : Env) (σ : Loc) (op : BoolOp) (es : List PySem.Expr) (H H' : List HObj) (v : V) : Prop :=
 ∀ (A : Around) (w : Wd) (Q E : Value → Shared → Prop) (pos : Pos), Room A n → BSt C w H → FSt C w env σ → (∀ w' y, Step [] w w' → BSt C w' H' → FSt C w' env σ → VRel w' v y → Q y w'.s) → wpAny C.M A (boolOp pos op (evalEach es env)) Q E w.s
noncomputable def BoT (C : Ct) (n : Nat) (env : Env) (σ : Loc) (op : BoolOp) (es : List PySem.Expr) (H H' : List HObj) (b : Bool) : Prop :=
 ∀ (A : Around) (w : Wd) (Q : Bool → Shared → Prop) (E : Value → Shared → Prop), Room A n → BSt C w H → FSt C w env σ → (∀ w', Step [] w w' → BSt C w' H' → FSt C w' env σ → Q b w'.s) → wpAny C.M A (allTrue op es env) Q E w.s
noncomputable def Typ (C : Ct) (H : List HObj) (v : V) (T : String) : Prop := ∀ (w : Wd) (x : Value), BSt C w H → VRel w v x → w.s.TypeIs x T ∧ ∀ a, x = .ref a → ∃ ob, w.s.heap.get? a = some ob ∧ ob.dict = none
structure Mth (C : Ct) (n : Nat) (name : Str) (o : V) (args : List V) (H H' : List HObj) (v : V) (T id : String) : Prop where
 pa : PlainAttrs T
 slot : PySem.Slot T name id
 ty : typeOf (.builtin id) = pure (.type "method_descriptor")
 fn : Fn C n (.val (.builtin id)) (o :: args) [] H H' v
section
variable {C : Ct} {n : Nat} {env : Env} {σ σ' σ1 : Loc} {H H' H0 H1 H2 H3 : List HObj} {pos p pos' tpos : Pos} {k : Nat} {x : Str} {v v1 v2 v3 : V} {e e1 e2 e3 : PySem.Expr} {o : Out} {es : List PySem.Expr} {vs : List V}
theorem Ast.tup {X : List Addr} {ts : List PySem.Expr} (h : AsL C n env X ts vs σ H σ') (hX : ∀ {w : Wd} {σ : Loc}, FSt C w env σ → NonSeq w X) : Ast C n env X (.Tuple ts k tpos) (.tup vs) σ H σ' := by
 intro A w y Q E R B F r K
 obtain ⟨h1, h2, h3⟩ := h
 cases r with
 | @tup _ q ys m ho hn rv =>
 refine wpAny_assign_Tuple (items := ys.toArray) R.hd ⟨_, ho, rfl, _, rfl⟩ (by rw [h1, List.size_toArray, rv.length]) h2 fun h' hs => ?_
 have X1 : Ext w ⟨w.ρ, w.π, { w.s with heap := h' }⟩ := ⟨rfl, fun b o e => hs b o (Nat.ne_of_lt (Heap.lt_size e)) e, rfl, rfl, rfl, Nat.le_refl _⟩
 refine h3 A ⟨w.ρ, w.π, { w.s with heap := h' }⟩ _ _ _ R (B.ext X1) (F.ext X1) hX (by simpa using rv.ext X1) fun w2 S2 B2 F2 => ?_
 exact K w2 (X1.step.trans S2) B2 F2
theorem fw_nonSeq {w : Wd} {σ : Loc} (F : FSt C w env σ) : NonSeq w (fw env) := F.nonSeq
theorem locals_nonSeq {w : Wd} {σ : Loc} (F : FSt C w env σ) : NonSeq w [env.locals] := fun a m => by rw [List.mem_singleton.mp m]; exact F.nonSeq _ (.head _)
theorem Es.assignT {ts : List PySem.Expr} (h : Ev C n env σ H e H1 (.tup vs)) (ha : AsL C n env (fw env) ts vs σ H1 σ') (hs : swapsWithSole [.Tuple ts k tpos] e pos.line env = pure false) (hw : swappedStores [.Tuple ts k tpos] e env = pure none) :
  Es C n env σ H (.Assign [.Tuple ts k tpos] e pos) (.next σ' H1) := by
 intro A w Q E R B F K
 refine Assign_Tuple (h A w _ E R B F fun w1 y1 S1 B1 F1 r1 => ?_) hs hw
 exact Ast.tup ha fw_nonSeq A w1 y1 _ _ R B1 F1 r1 fun w2 S2 B2 F2 => K w2 _ (F.swide S1 S2) (.next B2 F2)
theorem bindAll (l : List (Str × V)) {σ : Loc} {A : Around} {w : Wd} {ys : List Value} {Q : Unit → Shared → Prop} {E : Value → Shared → Prop} (R : Room A n) (B : BSt C w H) (F : FSt C w env σ) (hk : ∀ p ∈ l, Sto env p.1) (r : VRels w (l.map (·.2)) ys)
  (K : ∀ w', Step (fw env) w w' → BSt C w' H → FSt C w' env (l.reverse ++ σ) → Q () w'.s) : wpAny C.M A (assignInOrder ((l.map (·.1)).map fun n => bindName env n) ys) Q E w.s := by
 induction l generalizing σ w ys with
 | nil =>
  obtain rfl := r.inv0
  exact assignInOrder_nil (K w (Step.refl _ _) B F)
 | cons p l ih =>
  obtain ⟨y, ys, rfl, r0, r1⟩ := r.inv
  refine assignInOrder_cons (bindName_ (store B F r0 (hk p (.head _)) fun w1 S1 B1 F1 => ?_))
  refine ih B1 F1 (fun q m => hk q (.tail _ m)) (r1.step F.nonSeq S1) fun w2 S2 B2 F2 => K w2 (S1.trans S2) B2 ?_
  rw [List.reverse_cons, List.append_assoc]; exact F2
theorem VRels.rev {w : Wd} {l : List V} {ys : List Value} (r : VRels w l ys) : VRels w l.reverse ys.reverse := by
 induction l generalizing ys with
 | nil => obtain rfl := r.inv0; exact .nil
 | cons v l ih =>
  obtain ⟨y, ys, rfl, a, r⟩ := r.inv
  rw [List.reverse_cons, List.reverse_cons]
  exact (ih r).append (.cons a .nil)
theorem Es.assignS {ts : List PySem.Expr} {names : List Str} (h : Ev C n env σ H e H1 (.tup vs)) (hn : names.length = vs.length) (hk : ∀ x ∈ names, Sto env x) (hs : swapsWithSole [.Tuple ts k tpos] e pos.line env = pure false) (hw : swappedStores [.Tuple ts k tpos] e env = pure (some names)) :
  Es C n env σ H (.Assign [.Tuple ts k tpos] e pos) (.next (names.zip vs ++ σ) H1) := by
 intro A w Q E R B F K
 refine Assign_Tuple_swapped (h A w _ E R B F fun w1 y1 S1 B1 F1 r1 => ?_) hs hw
 cases r1 with
 | @tup _ q ys m ho hq rv =>
 have hl : names.length = ys.toArray.size := by rw [List.size_toArray, rv.length, hn]
 rw [hl]
 refine wpAny_unpackItems_tuple (items := ys.toArray) R.hd ⟨_, ho, rfl, _, rfl⟩ fun h' hx => ?_
 have X1 : Ext w1 ⟨w1.ρ, w1.π, { w1.s with heap := h' }⟩ := ⟨rfl, fun b o e => hx b o (Nat.ne_of_lt (Heap.lt_size e)) e, rfl, rfl, rfl, Nat.le_refl _⟩
 have e1 : ((names.zip vs).reverse.map (·.1)) = names.reverse := by rw [List.map_reverse, List.map_fst_zip (by lia)]
 have e2 : ((names.zip vs).reverse.map (·.2)) = vs.reverse := by rw [List.map_reverse, List.map_snd_zip (by lia)]
 rw [← e1]
 refine bindAll (w := ⟨w1.ρ, w1.π, { w1.s with heap := h' }⟩) (names.zip vs).reverse R (B1.ext X1) (F1.ext X1) (fun p m => hk p.1 ?_) (by rw [e2]; simpa using (rv.ext X1).rev) fun w2 S2 B2 F2 => ?_
 ·have := List.mem_map_of_mem (f := (·.1)) m
  rw [e1] at this; exact List.mem_reverse.mp this
 ·refine K w2 _ (F.swide (S1.trans X1.step) S2) (.next B2 (by simpa using F2))
theorem loadV {A : Around} {w : Wd} {Q E : Value → Shared → Prop} (F : FSt C w env σ) (h : σ.lookup x = some v) (hc : (x == ("__classdict__" : Str)) = false) (K : ∀ y, VRel w v y → Q y w.s) : wpAny C.M A (loadName env x) Q E w.s := by
 obtain ⟨m, hn, hm⟩ := F.ns
 obtain ⟨y, hs, hv⟩ := hm x v h
 have q := K y hv
 rcases hs with ⟨a, b⟩ | ⟨a | a, c, e, hcell⟩
 ·exact wpAny_loadName_local F.kind a hn b q
 ·exact wpAny_loadName_cell F.kind a e hcell q
 ·exact wpAny_loadName_free F.kind a e hcell q hc
theorem Es.aug {op : Operator} (h0 : σ.lookup x = some v1) (hc : (x == ("__classdict__" : Str)) = false) (h : Ev C n env σ H e H1 v2) (ho : Aug C n op v1 v2 H1 H2 v) (hk : Sto env x) : Es C n env σ H (.AugAssign (.Name x pos') op e pos) (.next ((x, v) :: σ) H2) := by
 intro A w Q E R B F K
 refine wpAny_AugAssign_Name (loadV F h0 hc fun y ry => h A w _ E R B F fun w1 y1 S1 B1 F1 r1 => ho A w1 _ _ y y1 R B1 (ry.step0 S1) r1 fun w2 y2 S2 B2 r2 => ?_)
 exact store B2 (F1.step0 S2) r2 hk fun w3 S3 B3 F3 => K w3 _ (F.swide (S1.trans S2) S3) (.next B3 F3)
theorem BoV.one {op : BoolOp} (h : Ev C n env σ H e H' v) : BoV C n env σ op [e] H H' v := fun A w Q E q_ R B F K => h A w Q E R B F K
theorem BoV.next {op : BoolOp} {v' : V} (h : Ev C n env σ H e H1 v) (ht : Tru C n v H1 (op == .And)) (h2 : BoV C n env σ op (e2 :: es) H1 H' v') (he : ∀ env : Env, evalEach (e :: e2 :: es) env = eval e env :: evalEach (e2 :: es) env) : BoV C n env σ op (e :: e2 :: es) H H' v' := by
 intro A w Q E pos R B F K
 rw [he]
 show wpAny C.M A (eval _ env >>= fun v => _) Q E w.s
 refine wpAny_bind (h A w _ _ R B F fun w1 y S1 B1 F1 r1 => ?_)
 refine wpAny_bind (wpAny_standAt (wpAny_bind (wpAny_holding (ht A w1 _ _ y R B1 r1 fun w2 S2 B2 => ?_))))
 have q := h2 A w2 Q E pos R B2 (F1.step0 S2) fun w3 y3 S3 B3 F3 r3 => K w3 y3 ((S1.trans S2).trans S3) B3 F3 r3
 cases op <;> exact q
theorem Ev.boolOp {op : BoolOp} (h : BoV C n env σ op es H H' v) : Ev C n env σ H (.BoolOp op es pos) H' v := by
 intro A w Q E R B F K
 rw [arm_eval_BoolOp]
 exact h A w Q E _ R B F K
theorem BoT.nil {op : BoolOp} : BoT C n env σ op [] H H (op == .And) := by
 intro A w Q E R B F K
 have q := K w (Step.refl _ _) B F
 cases op
 ·exact wpAny_allTrue_And_nil q
 ·exact wpAny_allTrue_Or_nil q
theorem BoT.stop {op : BoolOp} (h : Tst C n env σ H e H' (op == .Or)) : BoT C n env σ op (e :: es) H H' (op == .Or) := by
 intro A w Q E R B F K
 cases op
 ·exact wpAny_allTrue_And_cons (h A w _ _ R B F fun w1 S1 B1 F1 => K w1 S1 B1 F1)
 ·exact wpAny_allTrue_Or_cons (h A w _ _ R B F fun w1 S1 B1 F1 => K w1 S1 B1 F1)
theorem BoT.next {op : BoolOp} {b : Bool} (h : Tst C n env σ H e H1 (op == .And)) (h2 : BoT C n env σ op es H1 H' b) : BoT C n env σ op (e :: es) H H' b := by
 intro A w Q E R B F K
 cases op
 ·exact wpAny_allTrue_And_cons (h A w _ _ R B F fun w1 S1 B1 F1 => h2 A w1 _ _ R B1 F1 fun w2 S2 B2 F2 => K w2 (S1.trans S2) B2 F2)
 ·exact wpAny_allTrue_Or_cons (h A w _ _ R B F fun w1 S1 B1 F1 => h2 A w1 _ _ R B1 F1 fun w2 S2 B2 F2 => K w2 (S1.trans S2) B2 F2)
theorem Tst.boolOp {op : BoolOp} {b : Bool} (h : BoT C n env σ op es H H' b) : Tst C n env σ H (.BoolOp op es pos) H' b := by
 intro A w Q E R B F K
 exact wpAny_isTrue_BoolOp (h A w _ _ R B F K)
theorem Ev.meth {name : Str} {apos : Pos} {T id : String} (h : Ev C n env σ H e H1 v1) (ha : EvL C n env σ H1 pos es H2 vs) (hm : Mth C n name v1 vs H2 H3 v T id) (ht : Typ C H1 v1 T)
  (hbase : attributeBase e name env (eval e env) = eval e env)
  (hfew : ((backTo pos (starEach es env)).all (fun x => !x.1) && (backToKw pos (keywordEach [] env)).all (fun x => x.1.isSome) && decide (es.length + ([] : List Keyword).length + (if ([] : List Keyword).isEmpty then 0 else 1) < 30)) = true)
  (hline : (apos.endLine == pos.line) = true) (hp : ((backTo pos (starEach es env)).any (·.1) || ([] : List (Option Str × Sem Value)).any (·.1.isNone)) = false)
  (hs : ∀ (f : Value) (A : Around) (Q : Args → Shared → Prop) (E : Value → Shared → Prop) (s : Shared), wpAny C.M A (spliced (backTo pos (starEach es env))) (fun ys s' => Q ⟨ys, []⟩ s') E s → wpAny C.M A (evalArgs f true (backTo pos (starEach es env)) []) Q E s) :
  Ev C n env σ H (.Call (.Attribute e name apos) es [] pos) H3 v := by
 intro A w Q E R B F K
 refine wpAny_Call_method_lateS hbase hfew hline (h A w _ E R B F fun w1 x S1 B1 F1 r1 => ⟨T, id, hm.pa, hm.slot, hm.ty, (ht w1 x B1 r1).1, (ht w1 x B1 r1).2, ?_⟩)
 refine callWith_of (P := fun q_ => True) (first := [x]) hp (fun q_ q_ => ⟨.machine, .inr (.inl rfl), Looks.of_pure rfl⟩) (hs _ _ _ _ _ (ha A w1 _ E R B1 F1 fun w2 ys S2 B2 F2 r2 => ⟨trivial, ?_⟩))
 have := hm.fn A w2 Q E (.builtin id) (x :: ys) [] R B2 (.val _) (.cons (r1.step0 S2) r2) .nil fun w3 y S3 B3 r => K w3 y (S1.trans (S2.trans S3)) B3 (F2.step0 S3) r
 exact this
end
end
section
section
variable {C : Ct} {n : Nat} {env : Env} {σ σ' σ1 : Loc} {H H' H0 H1 H2 H3 : List HObj} {pos p pos' tpos : Pos} {k : Nat} {x y : Str} {v v1 v2 v3 : V} {e e1 e2 e3 : PySem.Expr} {o : Out} {es : List PySem.Expr} {vs : List V} {a b : Int}
theorem Bin.sub : Bin C n .Sub (.int a) (.int b) H H (.int (a - b)) := by
 intro A w Q E x y R B rx ry K
 obtain ⟨_, rfl⟩ := rx.inv; obtain ⟨_, rfl⟩ := ry.inv
 exact P.sub_int (K ⟨w.ρ, w.π, _⟩ _ Ext.toks.step (B.ext Ext.toks) (.int _ _))
theorem Bin.mul (h : IntMulOk a b) : Bin C n .Mult (.int a) (.int b) H H (.int (a * b)) := by
 intro A w Q E x y R B rx ry K
 obtain ⟨_, rfl⟩ := rx.inv; obtain ⟨_, rfl⟩ := ry.inv
 exact P.mul_int (K ⟨w.ρ, w.π, _⟩ _ Ext.toks.step (B.ext Ext.toks) (.int _ _)) h
theorem Bin.fdiv (hb : b ≠ 0) (h : b.natAbs.log2 < 9000) : Bin C n .FloorDiv (.int a) (.int b) H H (.int (a.fdiv b)) := by
 intro A w Q E x y R B rx ry K
 obtain ⟨_, rfl⟩ := rx.inv; obtain ⟨_, rfl⟩ := ry.inv
 exact floordiv_int hb (K ⟨w.ρ, w.π, _⟩ _ Ext.toks.step (B.ext Ext.toks) (.int _ _)) (.inl (PyProof.noPylong_of_log2 h))
theorem Bin.fmod (hb : b ≠ 0) : Bin C n .Mod (.int a) (.int b) H H (.int (a.fmod b)) := by
 intro A w Q E x y R B rx ry K
 obtain ⟨_, rfl⟩ := rx.inv; obtain ⟨_, rfl⟩ := ry.inv
 exact mod_int' hb (K ⟨w.ρ, w.π, _⟩ _ Ext.toks.step (B.ext Ext.toks) (.int _ _))
theorem Bin.pow (h0 : 0 ≤ b) (h1 : b ≤ 1000000) (ha : a.natAbs < 2 ^ 64) : Bin C n .Pow (.int a) (.int b) H H (.int (a ^ b.toNat)) := by
 intro A w Q E x y R B rx ry K
 obtain ⟨_, rfl⟩ := rx.inv; obtain ⟨_, rfl⟩ := ry.inv
 exact pow_int_small h0 h1 ha (K ⟨w.ρ, w.π, _⟩ _ Ext.toks.step (B.ext Ext.toks) (.int _ _))
theorem Una.neg : Una C n .USub (.int a) H (.int (-a)) := by
 intro A w Q E x R B rx K
 obtain ⟨_, rfl⟩ := rx.inv
 exact P.neg_int (K ⟨w.ρ, w.π, _⟩ _ Ext.toks.step (B.ext Ext.toks) (.int _ _))
theorem Cmp.eqI : Cmp C n .Eq (.int a) (.int b) H (a == b) := by
 intro A w Q E x y R B rx ry K
 obtain ⟨_, rfl⟩ := rx.inv; obtain ⟨_, rfl⟩ := ry.inv
 exact P.eq_int (K w (Step.refl _ _) B)
theorem Cmp.neI : Cmp C n .NotEq (.int a) (.int b) H (a != b) := by
 intro A w Q E x y R B rx ry K
 obtain ⟨_, rfl⟩ := rx.inv; obtain ⟨_, rfl⟩ := ry.inv
 exact P.ne_int (K w (Step.refl _ _) B)
theorem Cmp.ltI : Cmp C n .Lt (.int a) (.int b) H (decide (a < b)) := by
 intro A w Q E x y R B rx ry K
 obtain ⟨_, rfl⟩ := rx.inv; obtain ⟨_, rfl⟩ := ry.inv
 exact P.lt_int (K w (Step.refl _ _) B)
theorem Cmp.leI : Cmp C n .LtE (.int a) (.int b) H (decide (a ≤ b)) := by
 intro A w Q E x y R B rx ry K
 obtain ⟨_, rfl⟩ := rx.inv; obtain ⟨_, rfl⟩ := ry.inv
 exact P.le_int (K w (Step.refl _ _) B)
theorem Cmp.gtI : Cmp C n .Gt (.int a) (.int b) H (decide (a > b)) := by
 intro A w Q E x y R B rx ry K
 obtain ⟨_, rfl⟩ := rx.inv; obtain ⟨_, rfl⟩ := ry.inv
 exact P.gt_int (K w (Step.refl _ _) B)
theorem Cmp.geI : Cmp C n .GtE (.int a) (.int b) H (decide (a ≥ b)) := by
 intro A w Q E x y R B rx ry K
 obtain ⟨_, rfl⟩ := rx.inv; obtain ⟨_, rfl⟩ := ry.inv
 exact P.ge_int (K w (Step.refl _ _) B)
theorem Tru.int : Tru C n (.int a) H (a != 0) := by
 intro A w Q E y R B rx K
 obtain ⟨_, rfl⟩ := rx.inv
 exact P.truthy_int (K w (Step.refl _ _) B)
theorem Tru.bool {b : Bool} : Tru C n (.bool b) H b := by
 intro A w Q E y R B rx K
 obtain ⟨_, rfl⟩ := rx.inv
 exact wpAny_truthy_bool (K w (Step.refl _ _) B)
theorem Cmp.isNone {v : V} {b : Bool} (h : ∀ (w : Wd) x, VRel w v x → (x == Value.none) = b) : Cmp C n .Is v .none H b := by
 intro A w Q E x y R B rx ry K
 obtain ⟨_, rfl⟩ := ry.inv
 exact is_none (by rw [h w x rx]; exact K w (Step.refl _ _) B)
theorem Cmp.isNotNone {v : V} {b : Bool} (h : ∀ (w : Wd) x, VRel w v x → (!(x == Value.none)) = b) : Cmp C n .IsNot v .none H b := by
 intro A w Q E x y R B rx ry K
 obtain ⟨_, rfl⟩ := ry.inv
 exact isNot_none (by rw [h w x rx]; exact K w (Step.refl _ _) B)
theorem Str.eq_of {x y : Str} (h : x.cps.toList = y.cps.toList) : x = y := by
 cases x; cases y; simpa using Array.toList_inj.mp h
theorem Cmp.eqS : Cmp C n .Eq (.str x) (.str y) H (decide (x = y)) := by
 intro A w Q E x' y' R B rx ry K
 obtain ⟨_, rfl⟩ := rx.inv; obtain ⟨_, rfl⟩ := ry.inv
 have : (x.cps.toList == y.cps.toList) = decide (x = y) := by
  by_cases h : x = y
  ·subst h; simp
  ·have : x.cps.toList ≠ y.cps.toList := fun z => h (Str.eq_of z)
   rw [decide_eq_false h]; exact beq_eq_false_iff_ne.mpr this
 exact P.eq_str (by rw [this]; exact K w (Step.refl _ _) B)
theorem Cmp.neS : Cmp C n .NotEq (.str x) (.str y) H (!decide (x = y)) := by
 intro A w Q E x' y' R B rx ry K
 obtain ⟨_, rfl⟩ := rx.inv; obtain ⟨_, rfl⟩ := ry.inv
 have : (x.cps.toList != y.cps.toList) = !decide (x = y) := by
  by_cases h : x = y
  ·subst h; simp
  ·have : x.cps.toList ≠ y.cps.toList := fun z => h (Str.eq_of z)
   rw [decide_eq_false h, Bool.not_false]; exact bne_iff_ne.mpr this
 exact P.ne_str (by rw [this]; exact K w (Step.refl _ _) B)
theorem Str.app_nil {x y : Str} (h : x.length = 0) : x ++ y = y := by
 have hx : x.cps = #[] := Array.size_eq_zero_iff.mp h
 show (⟨x.cps ++ y.cps⟩ : Str) = y
 rw [hx]; simp
theorem Str.nil_app {x y : Str} (h : y.length = 0) : x ++ y = x := by
 have hx : y.cps = #[] := Array.size_eq_zero_iff.mp h
 show (⟨x.cps ++ y.cps⟩ : Str) = x
 rw [hx]; simp
set_option tactic.hygienic true in
theorem Bin.addS (hsz : x.length + y.length ≤ sizeLine) : Bin C n .Add (.str x) (.str y) H H (.str (x ++ y)) := by
 intro A w Q E x' y' R B rx ry K
 obtain ⟨t, rfl⟩ := rx.inv; obtain ⟨u, rfl⟩ := ry.inv
 refine P.add_str ?_
 split
 ·rename_i h
  have := Str.app_nil (y := y) (by simpa using h)
  exact K w _ (Step.refl _ _) B (by rw [this]; exact .str _ _)
 ·split
  ·rename_i h
   have := Str.nil_app (x := x) (by simpa using h)
   exact K w _ (Step.refl _ _) B (by rw [this]; exact .str _ _)
  ·refine ⟨?_, K ⟨w.ρ, w.π, _⟩ _ Ext.toks.step (B.ext Ext.toks) (.str _ _)⟩
   show (x.cps ++ y.cps).size ≤ sizeLine
   rw [Array.size_append]; exact hsz
end
end
section
noncomputable def EqV (C : Ct) (H : List HObj) (d : Nat) (a b : V) (r : Bool) : Prop :=
 ∀ ⦃w : Wd⦄ ⦃x y : Value⦄, BSt C w H → VRel w a x → VRel w b y → (x = y → r = true) ∧ ∀ {A : Around}, A.units + d < cLine → SeqAt.EqAt A w.s x y r
inductive EqVs (C : Ct) (H : List HObj) (d : Nat) : List V → List V → List Bool → Prop
 | nil : EqVs C H d [] [] []
 | cons {a b : V} {r : Bool} {l l' : List V} {bs : List Bool} : EqV C H d a b r → EqVs C H d l l' bs → EqVs C H d (a :: l) (b :: l') (r :: bs)
section
variable {C : Ct} {n : Nat} {env : Env} {σ σ' σ1 : Loc} {H H' H0 H1 H2 H3 : List HObj} {pos p pos' tpos : Pos} {k : Nat} {x y : Str} {v v1 v2 v3 : V} {e e1 e2 e3 : PySem.Expr} {o : Out} {es : List PySem.Expr} {vs : List V} {a b : Int}
theorem Lsy.isL {w : Wd} {a : V} {l : List V} {x : Value} (B : BSt C w H) (h : Lsy H a l) (r : VRel w a x) : ∃ q vs m, x = .ref q ∧ IsL w.s.heap q vs.toArray m ∧ VRels w l vs := h.at B r
theorem Bin.addL {u v : V} {l l' : List V} (h1 : Lsy H u l) (h2 : Lsy H v l') (hsz : l.length + l'.length ≤ sizeLine) : Bin C n .Add u v H H (.lst (l ++ l')) := by
 intro A w Q E x y R B rx ry K
 obtain ⟨q, vs, m, rfl, e1, r1⟩ := h1.isL B rx
 obtain ⟨q2, vs2, m2, rfl, e2, r2⟩ := h2.isL B ry
 refine P.add_list e1 e2 ?_ (by simp [r1.length, r2.length]; exact hsz)
 have X : Ext w ⟨w.ρ, w.π, { w.s with heap := w.s.heap.push { cls := .type "list", data := .seq (vs.toArray ++ vs2.toArray) } }⟩ := Ext.push _
 refine K ⟨w.ρ, w.π, _⟩ _ X.step (B.ext X) (.lst (vs := vs ++ vs2) (n := 0) ?_ (B.fresh (size_none _)) ((r1.append r2).ext X))
 show (w.s.heap.push _).get? _ = _
 rw [Heap.get?_push_size _ rfl]; simp [lstObj]
theorem listMul_foldl' (xs : Array Value) : ∀ (k : Nat) (acc : Array Value), List.foldl (fun x1 x2 => x1 ++ x2) acc (List.replicate k xs) = acc ++ (List.replicate k xs.toList).flatten.toArray
 | 0, acc => by simp
 | k + 1, acc => by
  rw [List.replicate_succ, List.foldl_cons, listMul_foldl' xs k]
  apply Array.toList_inj.mp; simp [List.replicate_succ]
theorem VRels.rep {w : Wd} {l : List V} {vs : List Value} (r : VRels w l vs) : ∀ k, VRels w (List.replicate k l).flatten (List.replicate k vs).flatten
 | 0 => by simpa using VRels.nil
 | k + 1 => by simpa [List.replicate_succ] using r.append (VRels.rep r k)
theorem Bin.mulL {u : V} {l : List V} (h1 : Lsy H u l) (hne : l ≠ []) (h0 : 0 ≤ b) (hsz : l.length * b.toNat ≤ 2 ^ 24) (hb : b < 2 ^ 62) : Bin C n .Mult u (.int b) H H (.lst (List.replicate b.toNat l).flatten) := by
 intro A w Q E x y R B rx ry K
 obtain ⟨q, vs, m, rfl, e1, r1⟩ := h1.isL B rx
 obtain ⟨t, rfl⟩ := ry.inv
 have hlen : vs.length = l.length := r1.length
 have hsz' : vs.toArray.size * b.toNat ≤ 2 ^ 24 := by rw [List.size_toArray, hlen]; exact hsz
 have hvs : vs ≠ [] := fun z => hne (by rw [z] at hlen; simpa using hlen.symm)
 refine wpAny_binaryOp_repeat_ref (T := "list") (U := "int") (by decide) ⟨_, e1, rfl⟩ (fun s' => typeIs_int s' b t) noFill_list_mul F.fills_int_mul F.slot_int_rmul repeat_list F.slot_int_index.lookup
  (call_meets F.slot_int_rmul (typeIs_int w.s b t) F.entry_int_rmul (F.args_int_rmul_2 _ _) (int___rmul___int_list b t q vs.toArray m)
   ⟨e1, rfl, ⟨_, e1, rfl⟩, call_meets F.slot_list_mul ⟨_, e1, rfl⟩ F.entry_list_mul (F.args_list_mul_2 _ _)
    (AutoListH.list___mul___list_int_3 q vs.toArray m b t (by simp [Builtin.List.listFitsIndex]; lia) (by lia) (by simp [Builtin.List.listTooLong, sizeLine]; omega))
    ⟨e1, ?_⟩⟩)
 have X : Ext w ⟨w.ρ, w.π, { w.s with heap := w.s.heap.push { cls := .type "list", data := .seq (List.foldl (fun x1 x2 => x1 ++ x2) #[] (List.replicate (if vs.toArray.isEmpty = true then 0 else b.toNat) vs.toArray)) } }⟩ := Ext.push _
 refine K ⟨w.ρ, w.π, _⟩ _ X.step (B.ext X) (.lst (vs := (List.replicate b.toNat vs).flatten) (n := 0) ?_ (B.fresh (size_none _)) ((r1.rep _).ext X))
 show (w.s.heap.push _).get? _ = _
 rw [Heap.get?_push_size _ rfl, listMul_foldl']
 simp [lstObj, hvs]
set_option tactic.hygienic true in
theorem eqAt_flt {A : Around} {w : Wd} (B : BSt C w H) {x : UInt64} {t u : Tok} (ht : t ≠ 0) (hu : u ≠ 0) (hn : Float64.isNaN x = false) (hc : Float64.cmp x x = some .eq) : SeqAt.EqAt A w.s (.float x t) (.float x u) true := fun prog wo E Q hq => by
 have hb : NoneBooked w.s.heap := by
  obtain ⟨mc, h1, h2⟩ := C.nb
  exact ⟨mc, h1.keeps B.stays, h2⟩
 unfold eqBool
 refine wpAny_holding ?_
 refine wpAny_ite_split (fun q_ => wpAny_bind (wpAny_rule (wpAny_pure hq))) (fun q_ => ?_)
 have tail : wpAny (model prog wo) A (do truthOfDropped (← richCompare .Eq (.float x t) (.float x u))) Q E w.s := by
  have q : wpAny (model prog wo) A (compareOp .Eq (.float x t) (.float x u)) (fun v s' => wpAny (model prog wo) A (truthOfDropped v) Q E s') E w.s := AutoFloatOps.eq_0 (by rw [show Float64.cmp x x = some .eq from hc]; exact wpAny_truthy_bool hq)
  exact wpAny_bind q
 have same : wpAny (model prog wo) A (isSame (.float x t) (.float x u)) (fun b s' => s' = w.s) E w.s := by
  show wpAny _ A (isSame.created (x == x && !Float64.isNaN x) t u) _ E w.s
  unfold isSame.created
  refine wpAny_ite ?_
  split
  ·rename_i h; simp [ht, hu] at h
  refine wpAny_ite ?_
  split
  ·exact wpAny_pure rfl
  refine wpAny_ite ?_
  split
  ·exact wpAny_pure rfl
  refine wpAny_bind (wpAny_sharingNotTold_none hb ?_)
  simp only [Bool.false_eq_true, if_false]
  refine wpAny_bind (wpAny_sharingNotTold_none hb ?_)
  simp only [Bool.false_eq_true, if_false]
  exact wpAny_bind (wpAny_rule (wpAny_bind (wpAny_askSetting (wpAny_pure rfl))))
 refine wpAny_bind (wpAny_mono same (fun b s' e => ?_) fun q_ q_ e => e)
 subst e
 cases b
 ·exact tail
 ·exact wpAny_pure hq
theorem EqVs.lengths {d : Nat} {l l' : List V} {bs : List Bool} (h : EqVs C H d l l' bs) : l.length = l'.length ∧ bs.length = l.length := by
 induction h with
 | nil => exact ⟨rfl, rfl⟩
 | cons _ _ ih => simp [ih.1, ih.2]
theorem all_range {bs : List Bool} {m : Nat} (h : bs.length = m) : (List.range m).all (fun j => bs.getD j false) = bs.all id := by
 subst h
 rw [Bool.eq_iff_iff, List.all_eq_true, List.all_eq_true]
 constructor
 ·intro h b hb
  obtain ⟨i, hi, rfl⟩ := List.mem_iff_getElem.mp hb
  have := h i (List.mem_range.mpr hi)
  simpa [List.getD, hi] using this
 ·intro h i hi
  have hi' := List.mem_range.mp hi
  simpa [List.getD, hi'] using h _ (List.getElem_mem hi')
theorem EqVs.at {d : Nat} {l l' : List V} {bs : List Bool} (h : EqVs C H d l l' bs) {w : Wd} (B : BSt C w H) : ∀ {xs ys : List Value}, VRels w l xs → VRels w l' ys → (xs = ys → bs.all id = true) ∧ ∀ {A : Around}, A.units + d < cLine → ∀ j (h1 : j < xs.length) (h2 : j < ys.length), SeqAt.EqAt A w.s xs[j] ys[j] (bs.getD j false) := by
 induction h with
 | nil =>
  intro xs ys r r'
  obtain rfl := r.inv
  exact ⟨fun q_ => rfl, fun q_ j h1 => absurd h1 (Nat.not_lt_zero j)⟩
 | cons e _ ih =>
  intro xs ys r r'
  obtain ⟨x, xs, rfl, r1, r2⟩ := r.inv
  obtain ⟨y, ys, rfl, q1, q2⟩ := r'.inv
  have h1 := e B r1 q1
  have h2 := ih r2 q2
  refine ⟨fun z => ?_, fun hu j => ?_⟩
  ·injection z with z1 z2
   rw [List.all_cons, h1.1 z1, h2.1 z2]; rfl
  ·cases j with
   | zero => exact fun q_ q_ => h1.2 hu
   | succ j => exact fun k1 k2 => h2.2 hu j (Nat.lt_of_succ_lt_succ k1) (Nat.lt_of_succ_lt_succ k2)
theorem EqV.int {d : Nat} (a b : Int) : EqV C H d (.int a) (.int b) (a == b) := by
 intro w x y _ rx ry
 obtain ⟨t, rfl⟩ := rx.inv
 obtain ⟨u, rfl⟩ := ry.inv
 exact ⟨fun z => by injection z with z; simp [z], fun q_ => SeqAt.EqAt.int_int a t b u⟩
theorem EqV.str {d : Nat} (a b : Str) : EqV C H d (.str a) (.str b) (decide (a = b)) := by
 intro w x y _ rx ry
 obtain ⟨t, rfl⟩ := rx.inv
 obtain ⟨u, rfl⟩ := ry.inv
 exact ⟨fun z => by injection z with z; simp [z], fun q_ => SeqAt.EqAt.str_str a t b u⟩
theorem EqV.flt {d : Nat} (a : UInt64) (hn : Float64.isNaN a = false) (hc : Float64.cmp a a = some .eq) : EqV C H d (.flt a) (.flt a) true := by
 intro w x y B rx ry
 obtain ⟨t, rfl, ht⟩ := rx.inv
 obtain ⟨u, rfl, hu⟩ := ry.inv
 exact ⟨fun q_ => rfl, fun q_ => eqAt_flt B ht hu hn hc⟩
theorem tups_at {d : Nat} {l l' : List V} {bs : List Bool} (h : EqVs C H d l l' bs) {w : Wd} (B : BSt C w H) {A : Around} {q1 q2 : Addr} {xs ys : List Value} {m1 m2 : Nat} (e1 : w.h.get? q1 = some (tupObj xs m1)) (e2 : w.h.get? q2 = some (tupObj ys m2)) (r1 : VRels w l xs) (r2 : VRels w l' ys) (hu : A.units + 1 + d < cLine) : SeqAt.RcAt A w.s (.ref q1) (.ref q2) (bs.all id) := by
 have hl1 := r1.length; have hl2 := r2.length
 obtain ⟨hl, hb⟩ := h.lengths
 have := SeqAt.RcAt.tuples (A := A) (s := w.s) (items := xs.toArray) (items2 := ys.toArray) (e := fun j => bs.getD j false) ⟨_, e1, rfl, _, rfl⟩ ⟨_, e2, rfl, _, rfl⟩ (by lia) fun j h1 h2 => by
  simpa using (h.at B r1 r2).2 (A := A.in1) hu j (by simpa using h1) (by simpa using h2)
 rwa [show (List.range (min xs.toArray.size ys.toArray.size)).all (fun j => bs.getD j false) = bs.all id from all_range (by simp; lia), show (xs.toArray.size == ys.toArray.size) = true by simp; lia, Bool.and_true] at this
theorem EqV.tup {d : Nat} {l l' : List V} {bs : List Bool} (h : EqVs C H d l l' bs) : EqV C H (d + 1) (.tup l) (.tup l') (bs.all id) := by
 intro w x y B rx ry
 obtain ⟨q1, xs, m1, rfl, e1, _, r1⟩ := rx.inv
 obtain ⟨q2, ys, m2, rfl, e2, _, r2⟩ := ry.inv
 have hs : Value.ref q1 = .ref q2 → bs.all id = true := fun z => by
  injection z with z
  subst z
  rw [e1] at e2
  have e3 := congrArg (fun o => o.map Obj.data) e2
  simp only [Option.map_some, tupObj, Option.some.injEq, Data.seq.injEq] at e3
  exact (h.at B r1 r2).1 (by simpa using e3.1)
 refine ⟨hs, fun hu => ?_⟩
 by_cases hq : q1 = q2
 ·rw [hs (by rw [hq]), hq]; exact SeqAt.EqAt.same _
 ·exact SeqAt.EqAt.of_refs hq (tups_at h B e1 e2 r1 r2 (by lia))
theorem Cmp.eqL {d : Nat} {u v : V} {l l' : List V} {bs : List Bool} (h1 : Lsy H u l) (h2 : Lsy H v l') (h : EqVs C H d l l' bs) (hd : d ≤ 100) : Cmp C n .Eq u v H (bs.all id) := by
 intro A w Q E x y R B rx ry K
 obtain ⟨q1, xs, m1, rfl, e1, r1⟩ := h1.isL B rx
 obtain ⟨q2, ys, m2, rfl, e2, r2⟩ := h2.isL B ry
 have hl1 := r1.length; have hl2 := r2.length
 obtain ⟨hl, hb⟩ := h.lengths
 have hu := R.units
 have := SeqAt.RcAt.lists (A := A) (s := w.s) (items := xs.toArray) (items2 := ys.toArray) (e := fun j => bs.getD j false) ⟨_, e1, rfl, _, rfl⟩ ⟨_, e2, rfl, _, rfl⟩ (by simp; lia) R.room fun j h1 h2 => by
  simpa using (h.at B r1 r2).2 (A := A.in1) (by show A.units + 1 + d < 9900; lia) j (by simpa using h1) (by simpa using h2)
 rw [show (List.range xs.toArray.size).all (fun j => bs.getD j false) = bs.all id from all_range (by simp; lia)] at this
 exact this C.prog C.w E Q (K w (Step.refl _ _) B)
theorem Cmp.eqLlen {u v : V} {l l' : List V} (h1 : Lsy H u l) (h2 : Lsy H v l') (h : l.length ≠ l'.length) : Cmp C n .Eq u v H false := by
 intro A w Q E x y R B rx ry K
 obtain ⟨q1, xs, m1, rfl, e1, r1⟩ := h1.isL B rx
 obtain ⟨q2, ys, m2, rfl, e2, r2⟩ := h2.isL B ry
 have hl1 := r1.length; have hl2 := r2.length
 exact SeqAt.RcAt.lists_lengths (A := A) (s := w.s) (items := xs.toArray) (items2 := ys.toArray) ⟨_, e1, rfl, _, rfl⟩ ⟨_, e2, rfl, _, rfl⟩ (by simp; lia) R.room C.prog C.w E Q (K w (Step.refl _ _) B)
theorem Cmp.eqT {d : Nat} {l l' : List V} {bs : List Bool} (h : EqVs C H d l l' bs) (hd : d ≤ 100) : Cmp C n .Eq (.tup l) (.tup l') H (bs.all id) := by
 intro A w Q E x y R B rx ry K
 obtain ⟨q1, xs, m1, rfl, e1, _, r1⟩ := rx.inv
 obtain ⟨q2, ys, m2, rfl, e2, _, r2⟩ := ry.inv
 have hu := R.units
 exact tups_at h B e1 e2 r1 r2 (by show A.units + 1 + d < 9900; lia) C.prog C.w E Q (K w (Step.refl _ _) B)
theorem EqVs.by {α : Type} [DecidableEq α] {f : α → V} {d : Nat} (hf : ∀ x y, EqV C H d (f x) (f y) (decide (x = y))) {xs ys : List α} (h : xs.length = ys.length) : ∃ bs, EqVs C H d (xs.map f) (ys.map f) bs ∧ bs.all id = decide (xs = ys) := by
 induction xs generalizing ys with
 | nil => cases ys with
  | nil => exact ⟨[], .nil, rfl⟩
  | cons y ys => cases h
 | cons x xs ih => cases ys with
  | nil => cases h
  | cons y ys =>
   obtain ⟨bs, h1, h2⟩ := ih (Nat.succ.inj h)
   exact ⟨_, .cons (hf x y) h1, by rw [List.all_cons, h2]; exact Bool.eq_iff_iff.mpr (by simp)⟩
theorem EqVs.ints {xs ys : List Int} (h : xs.length = ys.length) : ∃ bs, EqVs C H 0 (xs.map V.int) (ys.map V.int) bs ∧ bs.all id = decide (xs = ys) := EqVs.by EqV.int h
theorem EqVs.strs {xs ys : List Str} (h : xs.length = ys.length) : ∃ bs, EqVs C H 0 (xs.map V.str) (ys.map V.str) bs ∧ bs.all id = decide (xs = ys) := EqVs.by EqV.str h
theorem EqVs.pairs {xs ys : List (Str × Str)} (h : xs.length = ys.length) : ∃ bs, EqVs C H 1 (xs.map fun p => V.tup [.str p.1, .str p.2]) (ys.map fun p => V.tup [.str p.1, .str p.2]) bs ∧ bs.all id = decide (xs = ys) :=
 EqVs.by (fun p q => by
  have e : [decide (p.1 = q.1), decide (p.2 = q.2)].all id = decide (p = q) := Bool.eq_iff_iff.mpr (by simp [Prod.ext_iff])
  exact e ▸ EqV.tup (.cons (EqV.str p.1 q.1) (.cons (EqV.str p.2 q.2) .nil))) h
theorem Cmp.eqInts {u v : V} {xs ys : List Int} (h1 : Lsy H u (xs.map .int)) (h2 : Lsy H v (ys.map .int)) : Cmp C n .Eq u v H (decide (xs = ys)) := by
 by_cases h : xs.length = ys.length
 ·obtain ⟨bs, e1, e2⟩ := EqVs.ints h
  rw [← e2]; exact Cmp.eqL h1 h2 e1 (by decide)
 ·rw [decide_eq_false (fun z => h (by rw [z]))]
  exact Cmp.eqLlen h1 h2 (by simpa using h)
end
end
section
section
variable {C : Ct} {n : Nat} {env : Env} {σ σ' σ1 : Loc} {H H' H0 H1 H2 H3 : List HObj} {pos p pos' tpos : Pos} {k : Nat} {x y : Str} {v v1 v2 v3 : V} {e e1 e2 e3 : PySem.Expr} {o : Out} {es : List PySem.Expr} {vs : List V} {a b : Int}
theorem Cmp.neL {d : Nat} {u v : V} {l l' : List V} {bs : List Bool} (h1 : Lsy H u l) (h2 : Lsy H v l') (h : EqVs C H d l l' bs) (hd : d ≤ 100) : Cmp C n .NotEq u v H (!bs.all id) := by
 intro A w Q E x y R B rx ry K
 obtain ⟨q1, xs, m1, rfl, e1, r1⟩ := h1.isL B rx
 obtain ⟨q2, ys, m2, rfl, e2, r2⟩ := h2.isL B ry
 have hl1 := r1.length; have hl2 := r2.length
 obtain ⟨hl, hb⟩ := h.lengths
 have hu := R.units
 have := SeqAt.RcNeAt.lists (A := A) (s := w.s) (items := xs.toArray) (items2 := ys.toArray) (e := fun j => bs.getD j false) ⟨_, e1, rfl, _, rfl⟩ ⟨_, e2, rfl, _, rfl⟩ (by simp; lia) R.room fun j h1 h2 => by
  simpa using (h.at B r1 r2).2 (A := A.in1) (by show A.units + 1 + d < 9900; lia) j (by simpa using h1) (by simpa using h2)
 rw [show (List.range xs.toArray.size).all (fun j => bs.getD j false) = bs.all id from all_range (by simp; lia)] at this
 exact this C.prog C.w E Q (K w (Step.refl _ _) B)
theorem Cmp.neLlen {u v : V} {l l' : List V} (h1 : Lsy H u l) (h2 : Lsy H v l') (h : l.length ≠ l'.length) : Cmp C n .NotEq u v H true := by
 intro A w Q E x y R B rx ry K
 obtain ⟨q1, xs, m1, rfl, e1, r1⟩ := h1.isL B rx
 obtain ⟨q2, ys, m2, rfl, e2, r2⟩ := h2.isL B ry
 have hl1 := r1.length; have hl2 := r2.length
 exact SeqAt.RcNeAt.lists_lengths (A := A) (s := w.s) (items := xs.toArray) (items2 := ys.toArray) ⟨_, e1, rfl, _, rfl⟩ ⟨_, e2, rfl, _, rfl⟩ (by simp; lia) R.room C.prog C.w E Q (K w (Step.refl _ _) B)
theorem Cmp.neInts {u v : V} {xs ys : List Int} (h1 : Lsy H u (xs.map .int)) (h2 : Lsy H v (ys.map .int)) : Cmp C n .NotEq u v H (!decide (xs = ys)) := by
 by_cases h : xs.length = ys.length
 ·obtain ⟨bs, e1, e2⟩ := EqVs.ints h
  rw [← e2]; exact Cmp.neL h1 h2 e1 (by decide)
 ·rw [decide_eq_false (fun z => h (by rw [z]))]
  exact Cmp.neLlen h1 h2 (by simpa using h)
theorem Cmp.neStrs {u v : V} {xs ys : List Str} (h1 : Lsy H u (xs.map .str)) (h2 : Lsy H v (ys.map .str)) : Cmp C n .NotEq u v H (!decide (xs = ys)) := by
 by_cases h : xs.length = ys.length
 ·obtain ⟨bs, e1, e2⟩ := EqVs.strs h
  rw [← e2]; exact Cmp.neL h1 h2 e1 (by decide)
 ·rw [decide_eq_false (fun z => h (by rw [z]))]
  exact Cmp.neLlen h1 h2 (by simpa using h)
theorem Cmp.nePairs {u v : V} {xs ys : List (Str × Str)} (h1 : Lsy H u (xs.map fun p => V.tup [.str p.1, .str p.2])) (h2 : Lsy H v (ys.map fun p => V.tup [.str p.1, .str p.2])) : Cmp C n .NotEq u v H (!decide (xs = ys)) := by
 by_cases h : xs.length = ys.length
 ·obtain ⟨bs, e1, e2⟩ := EqVs.pairs h
  rw [← e2]; exact Cmp.neL h1 h2 e1 (by decide)
 ·rw [decide_eq_false (fun z => h (by rw [z]))]
  exact Cmp.neLlen h1 h2 (by simpa using h)
theorem isList_ofL {w : Wd} {q : Addr} {vs : List Value} {m : Nat} (e : IsL w.s.heap q vs.toArray m) : w.s.heap.IsList q vs.toArray := ⟨_, e, rfl, m, rfl⟩
theorem Fn.len {u : V} {l : List V} (h : Lsy H u l) (hl : l.length < 2 ^ 40) : Fn C n (.val (.builtin "len")) [u] [] H H (.int l.length) := by
 intro A w Q E g xs ks R B rg rx rk K
 obtain ⟨_, rfl⟩ := rg.inv
 obtain ⟨x, rfl, r1⟩ := rx.inv1
 cases rk.inv0
 obtain ⟨q, vs, m, rfl, e1, r⟩ := h.isL B r1
 have hlen := r.length
 refine call_len_list (isList_ofL e1) (by simp; lia) ?_
 have := K ⟨w.ρ, w.π, { w.s with toks := w.s.toks + 1 + 1 }⟩ (.int vs.toArray.size (w.s.toks + 1)) (Ext.toksT (t := w.s.toks + 1 + 1) (by lia)).step (B.ext (Ext.toksT (t := w.s.toks + 1 + 1) (by lia))) (by rw [List.size_toArray, hlen]; exact .int _ _)
 exact this
theorem Fn.strI (h : a.natAbs.log2 < 1920) : Fn C n (.val (.type "str")) [.int a] [] H H (.str (toString a)) := by
 intro A w Q E g xs ks R B rg rx rk K
 obtain ⟨_, rfl⟩ := rg.inv
 obtain ⟨z, rfl, r1⟩ := rx.inv1
 cases rk.inv0
 obtain ⟨_, rfl⟩ := r1.inv
 exact P.str_of_int h (K ⟨w.ρ, w.π, _⟩ _ Ext.toks.step (B.ext Ext.toks) (.str _ _))
theorem Fn.intF {x : UInt64} {sg : Bool} {m : Nat} {e : Int} (h : Float64.decode x = .fin sg m e) : Fn C n (.val (.type "int")) [.flt x] [] H H (.int (Float64.truncOf sg m e)) := by
 intro A w Q E g xs ks R B rg rx rk K
 obtain ⟨_, rfl⟩ := rg.inv
 obtain ⟨z, rfl, r1⟩ := rx.inv1
 cases rk.inv0
 obtain ⟨_, rfl, _⟩ := r1.inv
 exact call_int_float h (K ⟨w.ρ, w.π, _⟩ _ Ext.toks.step (B.ext Ext.toks) (.int _ _))
theorem Fn.lower (h : x.length ≤ 100000) : Fn C n (.val (.builtin "str.lower")) [.str x] [] H H (.str (Txt.lower x)) := by
 intro A w Q E g xs ks R B rg rx rk K
 obtain ⟨_, rfl⟩ := rg.inv
 obtain ⟨z, rfl, r1⟩ := rx.inv1
 cases rk.inv0
 obtain ⟨_, rfl⟩ := r1.inv
 exact SCL.lower (by lia) fun q_ => K ⟨w.ρ, w.π, _⟩ _ Ext.toks.step (B.ext Ext.toks) (.str _ _)
theorem Fn.swapcase (h : x.length ≤ 100000) : Fn C n (.val (.builtin "str.swapcase")) [.str x] [] H H (.str (Txt.swapcase x)) := by
 intro A w Q E g xs ks R B rg rx rk K
 obtain ⟨_, rfl⟩ := rg.inv
 obtain ⟨z, rfl, r1⟩ := rx.inv1
 cases rk.inv0
 obtain ⟨_, rfl⟩ := r1.inv
 exact SCL.swapcase (by lia) fun q_ => K ⟨w.ρ, w.π, _⟩ _ Ext.toks.step (B.ext Ext.toks) (.str _ _)
theorem turnL {w : Wd} {i : Nat} {l' : List V} {vs' : List Value} {D : Addr} {m' : Nat} {h' : Heap} (B : BSt C w H) (hD : w.ρ[i]? = some D) (hs : Heap.SameBut D w.s.heap h') (hn : h'.get? D = some (lstObj vs' m')) (hr : VRels w l' vs') (hd : datL l' = true) :
  BSt C ⟨w.ρ, w.π, { w.s with heap := h' }⟩ (H.set i (.list l')) ∧ Step [] w ⟨w.ρ, w.π, { w.s with heap := h' }⟩ :=
 B.set (s' := { w.s with heap := h' }) (o := .list l') hD hs rfl rfl (Nat.le_refl _) ⟨_, hn⟩ (fun S => .list hn (hr.step0 S) hd) (fun q_ e => by cases e)
theorem Fn.append {i : Nat} {l : List V} (hH : H[i]? = some (.list l)) (hd : v.dat = true) (hlen : l.length ≤ sizeLine) : Fn C n (.val (.builtin "list.append")) [.ref i, v] [] H (H.set i (.list (l ++ [v]))) .none := by
 intro A w Q E g xs ks R B rg rx rk K
 obtain ⟨_, rfl⟩ := rg.inv
 obtain ⟨x1, x2, rfl, r1, r2⟩ := rx.inv2
 cases rk.inv0
 obtain ⟨_, rfl, hD⟩ := r1.inv
 exact appendAt B hD hH r2 hd hlen fun w' S q_ B' => K w' _ S B' .none
theorem datL_take {l : List V} (h : datL l = true) (n : Nat) : datL (l.take n) = true := datL_iff.mpr fun v m => datL_iff.mp h v (List.mem_of_mem_take m)
theorem datL_drop {l : List V} (h : datL l = true) (n : Nat) : datL (l.drop n) = true := datL_iff.mpr fun v m => datL_iff.mp h v (List.mem_of_mem_drop m)
theorem Fn.insert {i j : Nat} {l : List V} (hH : H[i]? = some (.list l)) (hd : v.dat = true) (hj : j ≤ l.length) (hlen : l.length ≤ sizeLine) :
  Fn C n (.val (.builtin "list.insert")) [.ref i, .int j, v] [] H (H.set i (.list (l.take j ++ v :: l.drop j))) .none := by
 intro A w Q E g xs ks R B rg rx rk K
 obtain ⟨_, rfl⟩ := rg.inv
 obtain ⟨x1, x2, x3, rfl, r1, r2, r3⟩ := rx.inv3
 cases rk.inv0
 cases r1 with | @ref _ D hD =>
 generalize hji : (j : Int) = ji at r2
 obtain ⟨t, rfl⟩ := r2.inv
 obtain ⟨a, vs, m, h1, h2, h3, d⟩ := B.get hH
 obtain rfl := Option.some.inj (hD.symm.trans h1)
 have hlen' := h3.length
 have hfit : ¬(!Builtin.List.listFitsIndex ji) = true := by
  have h64 : l.length ≤ 2 ^ 24 := hlen
  simp [Builtin.List.listFitsIndex]; lia
 have hz : vs.toArray.size ≤ sizeLine := by
  have e : vs.toArray.size = l.length := by rw [List.size_toArray]; exact hlen'
  lia
 have g := AutoSeq1.list_insert_list_int_val_1 D vs.toArray m ji t x3 hfit hz
 refine call_meets F.slot_list_insert ⟨_, h2, rfl⟩ F.entry_list_insert (F.args_list_insert_3 _ _ _) g ⟨h2, ?_⟩
 have hs : Heap.SameBut D w.s.heap (w.s.heap.update D (Obj.mapSeq fun xs => have k := if ji < 0 then (ji + ((xs.size : Nat) : Int)).toNat else min ji.toNat xs.size; (xs.extract 0 k).push x3 ++ xs.extract k)) := Heap.SameBut.update ..
 have hn := IsL.update (h := w.s.heap) (l := D) (items := vs.toArray) (n := m) h2 (fun xs => have k := if ji < 0 then (ji + ((xs.size : Nat) : Int)).toNat else min ji.toNat xs.size; (xs.extract 0 k).push x3 ++ xs.extract k)
 have hval : (have k := if ji < 0 then (ji + ((vs.toArray.size : Nat) : Int)).toNat else min ji.toNat vs.toArray.size; (vs.toArray.extract 0 k).push x3 ++ vs.toArray.extract k) = (vs.take j ++ x3 :: vs.drop j).toArray := by
  have hk : min j vs.length = j := by lia
  have hneg : ¬ ji < 0 := by lia
  have htn : ji.toNat = j := by lia
  simp only [hneg, if_false, htn, List.size_toArray, hk]
  apply Array.toList_inj.mp
  simp
  exact List.take_of_length_le (by simp)
 rw [hval] at hn
 obtain ⟨B', S⟩ := turnL (l' := l.take j ++ v :: l.drop j) B hD hs hn ((h3.take j).append (.cons r3 (h3.drop j))) (by rw [datL_append, datL_take d]; simp [datL, hd, datL_drop d])
 exact K _ _ S B' .none
theorem isSeq_iadd : seqSlot? (.type "list") (dunderI "add") = pure (some (.builtin "list.__iadd__")) := PySem.seqSlot_of F.slot_list_iadd.lookup (by decide +kernel)
theorem inplace_seq {prog : Program} {wo : World} {A : Around} {E Q : Value → Shared → Prop} {s : Shared} {x y : Value} (hx : s.TypeIs x "list") (hy : s.TypeIs y "list") (hc : wpAny (model prog wo) A (call (.builtin "list.__iadd__") [x, y]) Q E s) : wpAny (model prog wo) A (inplaceOp .Add x y) Q E s := by
 unfold inplaceOp
 refine wpAny_holding ?_
 have hfi : fillsInplaceSlot (.type "list") "add" (Operator.Add == .Add) = pure false := by
  unfold fillsInplaceSlot
  show (typeLookup (.type "list") (dunderI "add") >>= fun fi => pure (fi.isSome && !isSeqSlot fi)) = pure false
  rw [F.slot_list_iadd.lookup]
  have : isSeqSlot (some (.builtin "list.__iadd__")) = true := by decide +kernel
  simp [this]
 refine wpAny_bind (wpAny_typeOf hx (wpAny_bind (wpAny_of_eq hfi ?_)))
 show wpAny _ A (if false = true then _ else _) Q E s
 rw [if_neg Bool.false_ne_true]
 refine wpAny_bind (wpAny_binaryOp1_none (nm := "add") hx hy noFill_list_add ?_)
 refine wpAny_bind (wpAny_of_eq isSeq_iadd ?_)
 exact wpAny_bind (wpAny_rule hc)
theorem Aug.addL {i : Nat} {l l' : List V} {u : V} (hH : H[i]? = some (.list l)) (h2 : Lsy H u l') (hd : datL l' = true) (hsz : l.length + l'.length ≤ sizeLine) : Aug C n .Add (.ref i) u H (H.set i (.list (l ++ l'))) (.ref i) := by
 intro A w Q E x y R B rx ry K
 cases rx with | @ref _ D hD =>
 obtain ⟨a, vs, m, h1, e1, r1, d⟩ := B.get hH
 obtain rfl := Option.some.inj (hD.symm.trans h1)
 obtain ⟨q2, vs2, m2, rfl, e2, r2⟩ := h2.isL B ry
 have hl1 := r1.length; have hl2 := r2.length
 have h64 : l.length + l'.length ≤ 2 ^ 24 := hsz
 have hz : vs.toArray.size + vs2.toArray.size ≤ sizeLine := by
  rw [show vs.toArray.size + vs2.toArray.size = l.length + l'.length by simp [hl1, hl2]]; exact hsz
 have hlong : ¬(!vs.toArray.isEmpty && Builtin.List.listTooLong (vs.toArray.size + vs2.toArray.size)) = true := by
  simp [Builtin.List.listTooLong, hl1, hl2]; intros; omega
 refine inplace_seq ⟨_, e1, rfl⟩ ⟨_, e2, rfl⟩ ?_
 have g := AutoSeq1.list___iadd___list_list_0 D vs.toArray m q2 vs2.toArray m2 hlong (by lia) (by lia)
 refine call_meets F.slot_list_iadd ⟨_, e1, rfl⟩ F.entry_list_iadd (F.args_list_iadd_2 _ _) g ⟨e1, e2, ?_⟩
 have hs : Heap.SameBut D w.s.heap (w.s.heap.update D (Obj.mapSeq fun x => x ++ vs2.toArray)) := Heap.SameBut.update ..
 have hn := IsL.update (h := w.s.heap) (l := D) (items := vs.toArray) (n := m) e1 (fun x => x ++ vs2.toArray)
 have hval : vs.toArray ++ vs2.toArray = (vs ++ vs2).toArray := by simp
 rw [hval] at hn
 obtain ⟨B', S⟩ := turnL (l' := l ++ l') B hD hs hn (r1.append r2) (by rw [datL_append, d, hd]; rfl)
 exact K _ _ S B' (.ref hD)
end
end
section
section
variable {C : Ct} {n : Nat} {env : Env} {σ σ' σ1 : Loc} {H H' H0 H1 H2 H3 : List HObj} {pos p pos' tpos : Pos} {k : Nat} {x y : Str} {v v1 v2 v3 : V} {e e1 e2 e3 : PySem.Expr} {o : Out} {es : List PySem.Expr} {vs : List V} {a b : Int}
theorem walkL {A : Around} {w : Wd} {q : Addr} {vs : List Value} {m : Nat} {Q E : Value → Shared → Prop} (hh : A.handled = none) (e : IsL w.s.heap q vs.toArray m)
  (K : ∀ I fp P St, Walks C.prog C.w A I fp [I] vs.length P St → St 0 (w.s.heap.push { cls := .type "list_iterator", data := .fields #[.ref q, .int 0 0] }) → (∀ b ∈ fp, b < (w.s.heap.push { cls := .type "list_iterator", data := .fields #[.ref q, .int 0 0] }).objs.size) → w.s.heap.get? I = none → (∀ i v, P i v ↔ vs[i]? = some v) →
   Q (.ref I) { w.s with heap := w.s.heap.push { cls := .type "list_iterator", data := .fields #[.ref q, .int 0 0] } }) : wpAny C.M A (pyIter (.ref q)) Q E w.s := by
 have hlt : q < w.s.heap.objs.size := Heap.lt_size e
 have hl : w.s.heap.IsList q vs.toArray := ⟨_, e, rfl, m, rfl⟩
 have W := Walks.list (prog := C.prog) (w := C.w) (A := A) hh w.s.heap.objs.size q (Nat.ne_of_lt hlt) vs.toArray
 rw [List.size_toArray] at W
 refine wpAny_pyIter_list hl (K _ _ _ _ W ⟨⟨_, Heap.get?_push_size _ rfl, rfl, rfl⟩, hl.push _⟩ (fun b hb => ?_) (size_none _) (fun i v => by simp))
 rw [Heap.size_push]
 rcases List.mem_cons.mp hb with rfl | hb
 ·exact Nat.lt_succ_self _
 ·rcases List.mem_cons.mp hb with rfl | hb
  ·exact Nat.lt_succ_of_lt hlt
  ·cases hb
theorem walkX {w : Wd} {q I : Addr} {h' : Heap} {tk : Nat} (hI : w.s.heap.get? I = none) (hk : ∀ b o, b ∉ [I] → (w.s.heap.push { cls := .type "list_iterator", data := .fields #[.ref q, .int 0 0] }).get? b = some o → h'.get? b = some o) (ht : w.s.toks ≤ tk) :
  Ext w ⟨w.ρ, w.π, { w.s with heap := h', toks := tk }⟩ := by
 refine ⟨rfl, fun b o e => hk b o (fun m => ?_) (Heap.get?_push_of_some _ e), rfl, rfl, rfl, ht⟩
 rw [List.mem_singleton.mp m] at e
 have e' : w.s.heap.get? I = some o := e
 exact nomatch hI.symm.trans e'
theorem preSum_take (ns : List Int) (k : Nat) : preSum (fun i => ns.getD i 0) k = (ns.take k).sum := by
 induction k with
 | zero => rfl
 | succ k ih =>
  rw [preSum, ih]
  by_cases h : k < ns.length
  ·rw [List.take_succ_eq_append_getElem h, List.sum_append, List.getD_eq_getElem?_getD, List.getElem?_eq_getElem h]; simp
  ·have h := Nat.le_of_not_lt h
   rw [List.take_of_length_le h, List.take_of_length_le (Nat.le_succ_of_le h), List.getD_eq_getElem?_getD, List.getElem?_eq_none h]; exact Int.add_zero _
theorem Fn.sum {u : V} {ns : List Int} (h : Lsy H u (ns.map .int)) (hb : ∀ k, -(2 ^ 62) < (ns.take k).sum ∧ (ns.take k).sum < 2 ^ 62) (he : ∀ x ∈ ns, -(2 ^ 62) < x ∧ x < 2 ^ 62) : Fn C n (.val (.builtin "sum")) [u] [] H H (.int ns.sum) := by
 intro A w Q E g xs ks R B rg rx rk K
 obtain ⟨_, rfl⟩ := rg.inv
 obtain ⟨z, rfl, r1⟩ := rx.inv1
 cases rk.inv0
 obtain ⟨q, vs, m, rfl, e1, r⟩ := h.isL B r1
 have hlen : vs.length = ns.length := by simpa using r.length
 refine wpAny_with_toks (Nat.le_refl _) (call_sum_walk (walkL R.hd e1 fun I fp P St W st hfp hI hP => ⟨I, fp, [I], vs.length, P, St, fun i => ns.getD i 0, rfl, W, st, hfp, fun i v hv => ?_, fun j hj => ?_, fun h' tk t' hk htk => ?_⟩))
 ·have hi : i < vs.length := (List.getElem?_eq_some_iff.mp ((hP i v).mp hv)).1
  obtain ⟨z, hz, rz⟩ := r.get (i := i) (v := .int (ns.getD i 0)) (by simp [List.getD, hlen ▸ hi])
  rw [(hP i v).mp hv] at hz; cases hz
  obtain ⟨_, rfl⟩ := rz.inv; exact ⟨_, rfl⟩
 ·have hj' : j < ns.length := hlen ▸ hj
  have h1 := he _ (List.getElem_mem hj')
  have h2 := hb (j + 1)
  rw [← preSum_take] at h2
  have e : ns.getD j 0 = ns[j] := by simp [List.getD, hj']
  unfold InLong
  simp only [e]
  omega
 ·have X := walkX (w := w) hI hk htk
  have := K ⟨w.ρ, w.π, _⟩ (.int (preSum (fun i => ns.getD i 0) vs.length) t') X.step (B.ext X) (by rw [preSum_take, hlen, List.take_length]; exact .int _ _)
  exact this
theorem argBest_lt {bt : Nat → Nat → Bool} (k : Nat) : argBest bt k ≤ k := by
 induction k with
 | zero => exact Nat.le_refl _
 | succ k ih =>
  unfold argBest
  split
  ·exact Nat.le_refl _
  ·exact Nat.le_succ_of_le ih
theorem argBest_max (val : Nat → Int) (k i : Nat) (h : i ≤ k) : val i ≤ val (argBest (fun i j => decide (val i > val j)) k) := by
 induction k generalizing i with
 | zero => rw [Nat.le_zero.mp h]; exact Int.le_refl _
 | succ k ih =>
  unfold argBest
  by_cases q : val (k + 1) > val (argBest (fun i j => decide (val i > val j)) k)
  ·rw [if_pos (decide_eq_true q)]
   rcases Nat.lt_or_eq_of_le h with h | rfl
   ·exact Int.le_of_lt (Int.lt_of_le_of_lt (ih i (Nat.le_of_lt_succ h)) q)
   ·exact Int.le_refl _
  ·rw [if_neg fun z => q (of_decide_eq_true z)]
   rcases Nat.lt_or_eq_of_le h with h | rfl
   ·exact ih i (Nat.le_of_lt_succ h)
   ·exact Int.not_lt.mp q
theorem argBest_min (val : Nat → Int) (k i : Nat) (h : i ≤ k) : val (argBest (fun i j => decide (val i < val j)) k) ≤ val i := by
 have e : (fun i j => decide (val i < val j)) = fun i j => decide (-val i > -val j) := funext fun i => funext fun j => decide_eq_decide.mpr Int.neg_lt_neg_iff.symm
 rw [e]
 exact Int.neg_le_neg_iff.mp (argBest_max (fun i => -val i) k i h)
theorem best_min {ns : List Int} {mx : Int} (hm : mx ∈ ns) (hx : ∀ x ∈ ns, mx ≤ x) : ns.getD (argBest (fun i j => decide (ns.getD i 0 < ns.getD j 0)) (ns.length - 1)) 0 = mx := by
 have hpos : 0 < ns.length := List.length_pos_of_mem hm
 have hk := argBest_lt (bt := fun i j => decide (ns.getD i 0 < ns.getD j 0)) (ns.length - 1)
 obtain ⟨i, hi, hie⟩ := List.mem_iff_getElem.mp hm
 have h1 : ns.getD (argBest (fun i j => decide (ns.getD i 0 < ns.getD j 0)) (ns.length - 1)) 0 ≤ ns.getD i 0 := argBest_min (fun i => ns.getD i 0) (ns.length - 1) i (by lia)
 have h2 : ns.getD i 0 = mx := by rw [← hie]; simp [List.getD, hi]
 generalize argBest (fun i j => decide (ns.getD i 0 < ns.getD j 0)) (ns.length - 1) = k at *
 have hk' : k < ns.length := by lia
 have h3 : ns.getD k 0 = ns[k] := by simp [List.getD, hk']
 have h4 := hx _ (List.getElem_mem hk')
 lia
theorem int_at {w : Wd} {ns : List Int} {vs : List Value} (r : VRels w (ns.map V.int) vs) {i : Nat} {v : Value} (h : vs[i]? = some v) : ∃ t, v = .int (ns.getD i 0) t := by
 have hi : i < vs.length := (List.getElem?_eq_some_iff.mp h).1
 have hlen : vs.length = ns.length := by simpa using r.length
 obtain ⟨z, hz, rz⟩ := r.get (i := i) (v := .int (ns.getD i 0)) (by simp [List.getD, hlen ▸ hi])
 obtain rfl := Option.some.inj (h.symm.trans hz)
 obtain ⟨_, rfl⟩ := rz.inv; exact ⟨_, rfl⟩
theorem Fn.minL {u : V} {ns : List Int} {mx : Int} (h : Lsy H u (ns.map .int)) (hm : mx ∈ ns) (hx : ∀ x ∈ ns, mx ≤ x) : Fn C n (.val (.builtin "min")) [u] [] H H (.int mx) := by
 intro A w Q E g xs ks R B rg rx rk K
 obtain ⟨_, rfl⟩ := rg.inv
 obtain ⟨z, rfl, r1⟩ := rx.inv1
 cases rk.inv0
 obtain ⟨q, vs, m, rfl, e1, r⟩ := h.isL B r1
 have hlen : vs.length = ns.length := by simpa using r.length
 have hpos : 0 < ns.length := List.length_pos_of_mem hm
 refine wpAny_with_toks (Nat.le_refl _) (call_min_walk (walkL R.hd e1 fun I fp P St W st hfp hI hP => ⟨I, fp, [I], vs.length, P, St, fun i j => decide (ns.getD i 0 < ns.getD j 0), rfl, W, st, hfp, by lia,
  CmpOf.ints_lt (fun i => ns.getD i 0) (fun i v hv => int_at r ((hP i v).mp hv)), fun v h' tk hv hk htk => ?_⟩))
 have X := walkX (w := w) hI hk htk
 obtain ⟨t, rfl⟩ := int_at r ((hP _ v).mp hv)
 have e := best_min hm hx
 rw [← hlen] at e
 exact K ⟨w.ρ, w.π, _⟩ _ X.step (B.ext X) (by rw [e]; exact .int _ _)
noncomputable def fltAt (fs : List UInt64) (i : Nat) : UInt64 := fs.getD i 0
theorem flt_at {w : Wd} {ns : List UInt64} {vs : List Value} (r : VRels w (ns.map V.flt) vs) {i : Nat} {v : Value} (h : vs[i]? = some v) : ∃ t, v = .float (fltAt ns i) t ∧ VRel w (.flt (fltAt ns i)) v := by
 have hi : i < vs.length := (List.getElem?_eq_some_iff.mp h).1
 have hlen : vs.length = ns.length := by simpa using r.length
 obtain ⟨z, hz, rz⟩ := r.get (i := i) (v := .flt (ns.getD i 0)) (by simp [List.getD, hlen ▸ hi])
 obtain rfl := Option.some.inj (h.symm.trans hz)
 obtain ⟨t, rfl, ht⟩ := rz.inv; exact ⟨_, rfl, .flt _ _ ht⟩
noncomputable def gtF (x y : UInt64) : Bool := Float64.cmp x y == some .gt
noncomputable def ltF (x y : UInt64) : Bool := Float64.cmp x y == some .lt
theorem Fn.max3 {x y z : UInt64} : Fn C n (.val (.builtin "max")) [.flt x, .flt y, .flt z] [] H H (.flt (fltAt [x, y, z] (argBest (fun i j => gtF (fltAt [x, y, z] i) (fltAt [x, y, z] j)) 2))) := by
 intro A w Q E g xs ks R B rg rx rk K
 obtain ⟨_, rfl⟩ := rg.inv
 cases rk.inv0
 have rx' : VRels w ([x, y, z].map V.flt) xs := rx
 obtain ⟨a, b, c, rfl, -, -, -⟩ := rx.inv3
 have hT : (w.s.heap.push { cls := .type "tuple", data := .seq #[a, b, c] }).IsTuple w.s.heap.objs.size #[a, b, c] := ⟨_, Heap.get?_push_size _ rfl, rfl, 0, rfl⟩
 have hsz : (w.s.heap.push { cls := .type "tuple", data := .seq #[a, b, c] }).objs.size = w.s.heap.objs.size + 1 := Heap.size_push ..
 refine wpAny_with_toks (Nat.le_refl _) (call_max_three (wpAny_pyIter_tuple hT ?_))
 refine ⟨_, [_, w.s.heap.objs.size], [_], _, _, _, _, rfl, Walks.tuple (A := A.in1) R.hd _ w.s.heap.objs.size (by rw [hsz]; exact Nat.ne_of_lt (Nat.lt_succ_self _)) #[a, b, c],
  ⟨⟨_, Heap.get?_push_size _ rfl, rfl, rfl⟩, hT.push _⟩, fun d hd => ?_, by simp, (?_ : CmpOf _ _ _ _ _ (fun i j => gtF (fltAt [x, y, z] i) (fltAt [x, y, z] j))), fun v h' tk hP hk htk => ?_⟩
 ·show d < ((w.s.heap.push _).push _).objs.size
  rw [Heap.size_push, hsz]
  rcases List.mem_cons.mp hd with rfl | hd
  ·rw [hsz]; exact Nat.lt_succ_self _
  ·rcases List.mem_cons.mp hd with rfl | hd
   ·exact Nat.lt_succ_of_lt (Nat.lt_succ_self _)
   ·cases hd
 ·intro i j vi vj s Q E hi hj hq
  obtain ⟨t, rfl, _⟩ := flt_at rx' (i := i) (by simpa using hi)
  obtain ⟨u, rfl, _⟩ := flt_at rx' (i := j) (by simpa using hj)
  exact AutoFloatOps.gt_0 hq
 ·have X : Ext w ⟨w.ρ, w.π, { w.s with heap := h', toks := tk }⟩ := by
   refine ⟨rfl, fun b o e => hk b o (fun hm => ?_) (Heap.get?_push_of_some _ (Heap.get?_push_of_some _ e)), rfl, rfl, rfl, htk⟩
   rw [List.mem_singleton.mp hm, hsz] at e
   exact Nat.lt_irrefl _ (Nat.lt_of_succ_lt (Heap.lt_size e))
  obtain ⟨t, rfl, rv⟩ := flt_at rx' (i := argBest (fun i j => gtF (fltAt [x, y, z] i) (fltAt [x, y, z] j)) 2) (by simpa using hP)
  exact K ⟨w.ρ, w.π, _⟩ _ X.step (B.ext X) (rv.ext X)
theorem Fn.min3 {x y z : UInt64} : Fn C n (.val (.builtin "min")) [.flt x, .flt y, .flt z] [] H H (.flt (fltAt [x, y, z] (argBest (fun i j => ltF (fltAt [x, y, z] i) (fltAt [x, y, z] j)) 2))) := by
 intro A w Q E g xs ks R B rg rx rk K
 obtain ⟨_, rfl⟩ := rg.inv
 cases rk.inv0
 have rx' : VRels w ([x, y, z].map V.flt) xs := rx
 obtain ⟨a, b, c, rfl, -, -, -⟩ := rx.inv3
 have hT : (w.s.heap.push { cls := .type "tuple", data := .seq #[a, b, c] }).IsTuple w.s.heap.objs.size #[a, b, c] := ⟨_, Heap.get?_push_size _ rfl, rfl, 0, rfl⟩
 have hsz : (w.s.heap.push { cls := .type "tuple", data := .seq #[a, b, c] }).objs.size = w.s.heap.objs.size + 1 := Heap.size_push ..
 refine wpAny_with_toks (Nat.le_refl _) (call_min_three (wpAny_pyIter_tuple hT ?_))
 refine ⟨_, [_, w.s.heap.objs.size], [_], _, _, _, _, rfl, Walks.tuple (A := A.in1) R.hd _ w.s.heap.objs.size (by rw [hsz]; exact Nat.ne_of_lt (Nat.lt_succ_self _)) #[a, b, c],
  ⟨⟨_, Heap.get?_push_size _ rfl, rfl, rfl⟩, hT.push _⟩, fun d hd => ?_, by simp, (?_ : CmpOf _ _ _ _ _ (fun i j => ltF (fltAt [x, y, z] i) (fltAt [x, y, z] j))), fun v h' tk hP hk htk => ?_⟩
 ·show d < ((w.s.heap.push _).push _).objs.size
  rw [Heap.size_push, hsz]
  rcases List.mem_cons.mp hd with rfl | hd
  ·rw [hsz]; exact Nat.lt_succ_self _
  ·rcases List.mem_cons.mp hd with rfl | hd
   ·exact Nat.lt_succ_of_lt (Nat.lt_succ_self _)
   ·cases hd
 ·intro i j vi vj s Q E hi hj hq
  obtain ⟨t, rfl, _⟩ := flt_at rx' (i := i) (by simpa using hi)
  obtain ⟨u, rfl, _⟩ := flt_at rx' (i := j) (by simpa using hj)
  exact AutoFloatOps.lt_0 hq
 ·have X : Ext w ⟨w.ρ, w.π, { w.s with heap := h', toks := tk }⟩ := by
   refine ⟨rfl, fun b o e => hk b o (fun hm => ?_) (Heap.get?_push_of_some _ (Heap.get?_push_of_some _ e)), rfl, rfl, rfl, htk⟩
   rw [List.mem_singleton.mp hm, hsz] at e
   exact Nat.lt_irrefl _ (Nat.lt_of_succ_lt (Heap.lt_size e))
  obtain ⟨t, rfl, rv⟩ := flt_at rx' (i := argBest (fun i j => ltF (fltAt [x, y, z] i) (fltAt [x, y, z] j)) 2) (by simpa using hP)
  exact K ⟨w.ρ, w.π, _⟩ _ X.step (B.ext X) (rv.ext X)
end
end
section
noncomputable def eqStr (a : Str) : Value → Bool
 | .str b _ => b == a
 | _ => false
section
variable {C : Ct} {n : Nat} {env : Env} {σ σ' σ1 : Loc} {H H' H0 H1 H2 H3 : List HObj} {pos p pos' tpos : Pos} {k : Nat} {x y : Str} {v v1 v2 v3 : V} {e e1 e2 e3 : PySem.Expr} {o : Out} {es : List PySem.Expr} {vs : List V} {a b : Int}
theorem str_at {w : Wd} {ns : List Str} {vs : List Value} (r : VRels w (ns.map V.str) vs) {i : Nat} {v : Value} (h : vs[i]? = some v) : ∃ y t, ns[i]? = some y ∧ v = .str y t := by
 have hi : i < vs.length := (List.getElem?_eq_some_iff.mp h).1
 have hlen : vs.length = ns.length := by simpa using r.length
 have hi' : i < ns.length := hlen ▸ hi
 obtain ⟨z, hz, rz⟩ := r.get (i := i) (v := .str ns[i]) (by simp [hi'])
 obtain rfl := Option.some.inj (h.symm.trans hz)
 obtain ⟨_, rfl⟩ := rz.inv; exact ⟨_, _, List.getElem?_eq_getElem hi', rfl⟩
theorem Fn.index {u : V} {ns : List Str} {j : Nat} (h : Lsy H u (ns.map .str)) (hj : ns[j]? = some x) (hno : ∀ i, i < j → ns[i]? ≠ some x) (hl : ns.length < 2 ^ 60) : Fn C n (.val (.builtin "list.index")) [u, .str x] [] H H (.int j) := by
 intro A w Q E g xs ks R B rg rx rk K
 obtain ⟨_, rfl⟩ := rg.inv
 obtain ⟨z1, z2, rfl, r1, r2⟩ := rx.inv2
 cases rk.inv0
 obtain ⟨q, vs, m, rfl, e1, r⟩ := h.isL B r1
 obtain ⟨t, rfl⟩ := r2.inv
 have hlen : vs.length = ns.length := by simpa using r.length
 have hj' : j < ns.length := (List.getElem?_eq_some_iff.mp hj).1
 have at_ : ∀ i (hi : i < vs.length), ∃ y t, ns[i]? = some y ∧ vs[i] = .str y t := fun i hi => str_at r (List.getElem?_eq_getElem hi)
 refine call_meets F.slot_list_index ⟨_, e1, rfl⟩ F.entry_list_index (F.args_list_index_2 _ _) (SeqAt.list_indexAt q vs.toArray m none #[] (.str x t) (eqStr x) j (by simp; lia) (by lia) ?_ fun i hi hlt => ?_) ⟨e1, fun y hy => ?_, ?_⟩
 ·obtain ⟨y, t', h1, h2⟩ := at_ j (by lia)
  obtain rfl := Option.some.inj (hj.symm.trans h1)
  show eqStr x vs[j] = true; rw [h2]; exact beq_self_eq_true x
 ·obtain ⟨y, t', h1, h2⟩ := at_ i (by simpa using hi)
  have : y ≠ x := fun z => hno i hlt (z ▸ h1)
  show eqStr x vs[i] = false; rw [h2]; exact beq_false_of_ne this
 ·obtain ⟨i, hi⟩ := List.getElem?_of_mem (List.mem_toArray.mp hy)
  obtain ⟨y', t', _, rfl⟩ := str_at r hi
  exact SeqAt.EqAt.str_str _ _ _ _
 ·exact K ⟨w.ρ, w.π, _⟩ _ Ext.toks.step (B.ext Ext.toks) (.int _ _)
theorem VRels.pick {w : Wd} {l : List V} {vs : List Value} (r : VRels w l vs) (is : List Nat) : VRels w (is.filterMap (l[·]?)) (is.filterMap (vs[·]?)) := by
 induction is with
 | nil => exact .nil
 | cons i is ih =>
  rw [List.filterMap_cons, List.filterMap_cons]
  by_cases h : i < l.length
  ·obtain ⟨z, hz, rz⟩ := r.get (List.getElem?_eq_getElem h)
   rw [hz, List.getElem?_eq_getElem h]
   exact .cons rz ih
  ·have h := Nat.le_of_not_lt h
   rw [List.getElem?_eq_none h, List.getElem?_eq_none (r.length ▸ h)]
   exact ih
theorem fm_congr {α β : Type} {f g : α → Option β} {l : List α} (h : ∀ a ∈ l, f a = g a) : l.filterMap f = l.filterMap g := by
 induction l with
 | nil => rfl
 | cons a l ih => rw [List.filterMap_cons, List.filterMap_cons, h a (.head _), ih fun b m => h b (.tail _ m)]
noncomputable def pick {α : Type} (l : List α) (lo hi st : Option Int) : List α :=
 (sliceRange (sliceBounds lo hi st l.length).1 (sliceBounds lo hi st l.length).2.1 (sliceBounds lo hi st l.length).2.2).filterMap (l[·]?)
theorem slicePick_pick (vs : List Value) (lo hi st : Option Int) : slicePick vs.toArray lo hi st = (pick vs lo hi st).toArray := by
 unfold slicePick pick
 rw [List.size_toArray]
 congr 1
 apply fm_congr
 intro i _
 simp
theorem VRels.picked {w : Wd} {l : List V} {vs : List Value} (r : VRels w l vs) (lo hi st : Option Int) : VRels w (Mine.pick l lo hi st) (Mine.pick vs lo hi st) := by
 unfold Mine.pick
 rw [r.length]; exact r.pick _
theorem sliceRange_1 (a n : Nat) : sliceRange (a : Int) (n : Int) 1 = (List.range (n - a)).map (a + ·) := by
 unfold sliceRange
 dsimp only
 have hc : (if (1 : Int) > 0 then (if (a : Int) < n then ((n : Int) - a + 1 - 1) / 1 else 0) else (if (a : Int) > n then ((a : Int) - n - 1 - 1) / (-1) else 0)).toNat = n - a := by
  simp only [show (1 : Int) > 0 by decide, if_true]
  split <;> lia
 rw [hc]
 apply List.map_congr_left
 intro k _
 lia
theorem pick_run' {α : Type} (l : List α) (a k : Nat) : ((List.range k).map (a + ·)).filterMap (l[·]?) = (l.drop a).take k := by
 induction k with
 | zero => rfl
 | succ k ih =>
  rw [List.range_succ, List.map_append, List.filterMap_append, ih, List.take_add_one, List.getElem?_drop]
  congr 1
theorem pick_from {α : Type} (l : List α) (a : Nat) : pick l (some (a : Int)) none none = l.drop a := by
 have e : sliceBounds (some (a : Int)) none none l.length = (((min a l.length : Nat) : Int), (l.length : Int), 1) := by
  simp only [sliceBounds, Option.getD_none]
  have h1 : ¬ ((a : Int) < 0) := by lia
  simp only [h1, if_false, show (1 : Int) > 0 by decide, if_true]
  congr 1
  omega
 unfold pick
 rw [e]
 simp only [sliceRange_1, pick_run']
 rcases Nat.le_total a l.length with h | h
 ·rw [Nat.min_eq_left h, List.take_of_length_le (by simp)]
 ·rw [Nat.min_eq_right h, List.drop_of_length_le (Nat.le_refl _), List.drop_of_length_le h]; simp
theorem pick_upto {α : Type} (l : List α) (b : Nat) : pick l none (some (b : Int)) none = l.take b := by
 have e : sliceBounds none (some (b : Int)) none l.length = (((0 : Nat) : Int), ((min b l.length : Nat) : Int), 1) := by
  simp only [sliceBounds, Option.getD_none]
  have h2 : ¬ ((b : Int) < 0) := by lia
  simp only [h2, if_false, show (1 : Int) > 0 by decide, if_true]
  congr 1
  congr 1; lia
 unfold pick
 rw [e]
 simp only [sliceRange_1, pick_run', List.drop_zero, Nat.sub_zero]
 rcases Nat.le_total b l.length with h | h
 ·rw [Nat.min_eq_left h]
 ·rw [Nat.min_eq_right h, List.take_of_length_le (Nat.le_refl _), List.take_of_length_le h]
theorem pick_all {α : Type} (l : List α) : pick l none none none = l := by
 have e : sliceBounds none none none l.length = (((0 : Nat) : Int), (l.length : Int), 1) := by
  simp [sliceBounds]
 unfold pick
 rw [e]
 simp only [sliceRange_1, pick_run', List.drop_zero, Nat.sub_zero, List.take_length]
theorem pick_map {α β : Type} (f : α → β) (l : List α) (lo hi st : Option Int) : pick (l.map f) lo hi st = (pick l lo hi st).map f := by
 unfold pick
 rw [List.length_map, List.map_filterMap]
 apply fm_congr
 intro i _
 simp
noncomputable def EvP (C : Ct) (n : Nat) (env : Env) (σ : Loc) (H : List HObj) (e : Option PySem.Expr) (H' : List HObj) (i : Option Int) : Prop :=
 ∀ (A : Around) (w : Wd) (Q E : Value → Shared → Prop), Room A n → BSt C w H → FSt C w env σ →
  (∀ w' (t : Tok), Step [] w w' → BSt C w' H' → FSt C w' env σ → Q (partValue (i.map fun j => (j, t))) w'.s) → wpAny C.M A (evalPart e env) Q E w.s
theorem EvP.none : EvP C n env σ H Option.none H Option.none := fun q_ w q_ q_ q_ B F K => wpAny_pure (K w 0 (Step.refl _ _) B F)
theorem EvP.some (h : Ev C n env σ H e H1 (.int a)) : EvP C n env σ H (some e) H1 (some a) := fun A w Q E R B F K => by
 rw [evalPart_some]
 exact h A w Q E R B F fun w' y S B' F' r => by obtain ⟨_, rfl⟩ := r.inv; exact K w' _ S B' F'
theorem part_is {i : Option Int} {t : Tok} : IsPart (partValue (i.map fun j => (j, t))) i := by
 cases i with
 | none => exact .none
 | some j => exact .int j t
theorem Ev.sliceL {lo hi st : Option PySem.Expr} {u : V} {l : List V} {i j k : Option Int} (h1 : Ev C n env σ H e H1 u) (h2 : EvP C n env σ H1 lo H2 i) (h3 : EvP C n env σ H2 hi H3 j) (h4 : EvP C n env σ H3 st H' k) (hl : Lsy H' u l) (h0 : k ≠ some 0) (hz : l.length ≤ sizeLine)
  (hs : ∀ o i, ∃ ops, subscripted (.Slice lo hi st p) false o i = operate ops (getItem o i)) : Ev C n env σ H (.Subscript e (.Slice lo hi st p) pos) H' (.lst (pick l i j k)) := by
 intro A w Q E R B F K
 refine Subscript_ (h1 A w _ E R B F fun w1 y1 S1 B1 F1 r1 => wpAny_Slice (h2 A w1 _ E R B1 F1 fun w2 t2 S2 B2 F2 => h3 A w2 _ E R B2 F2 fun w3 t3 S3 B3 F3 => h4 A w3 _ E R B3 F3 fun w4 t4 S4 B4 F4 => ?_))
 have ru := ((r1.step0 S2).step0 S3).step0 S4
 generalize hL : partValue (i.map fun j => (j, t2)) = vl
 generalize hU : partValue (j.map fun j => (j, t3)) = vu
 generalize hT : partValue (k.map fun j => (j, t4)) = vt
 have X : Ext w4 ⟨w4.ρ, w4.π, { w4.s with heap := w4.s.heap.push { cls := .type "slice", data := .fields #[vl, vu, vt] } }⟩ := Ext.push _
 obtain ⟨q, vs, m, rfl, e1, r⟩ := hl.isL (B4.ext X) (ru.ext X)
 obtain ⟨ops, hops⟩ := hs (.ref q) (.ref w4.s.heap.objs.size)
 have hlen := r.length
 refine PyProof.Rows.tail_any (T := "list") ⟨_, e1, rfl⟩ PySem.F.slot_list_getitem.lookup (wpAny_getItem_list_slice (isList_ofL (w := ⟨w4.ρ, w4.π, _⟩) e1) (Heap.IsSliceOf.new _ vl vu vt) (hL ▸ part_is) (hU ▸ part_is) (hT ▸ part_is) h0 ?_ ?_) hops
 ·rw [slicePick_pick]
  have X2 : Ext ⟨w4.ρ, w4.π, { w4.s with heap := w4.s.heap.push { cls := .type "slice", data := .fields #[vl, vu, vt] } }⟩ ⟨w4.ρ, w4.π, { w4.s with heap := (w4.s.heap.push { cls := .type "slice", data := .fields #[vl, vu, vt] }).push { cls := .type "list", data := .seq (pick vs i j k).toArray } }⟩ := Ext.push _
  have XX := X.trans X2
  refine K ⟨w4.ρ, w4.π, _⟩ _ ((((S1.trans S2).trans S3).trans S4).trans XX.step) (B4.ext XX) (F4.ext XX) (.lst (n := 0) (Heap.get?_push_size _ rfl) ((B4.ext X).fresh (size_none _)) ((r.picked i j k).ext X2))
 ·exact Nat.le_trans (Nat.le_of_eq ((List.size_toArray ..).trans hlen)) hz
end
end
section
open PySem.Builtin.Str
theorem strsAre {w : Wd} {ns : List Str} : ∀ {vs : List Value}, VRels w (ns.map V.str) vs → StrsAre vs ns := by
 induction ns with
 | nil => intro vs r; obtain rfl := r.inv; exact .nil
 | cons m ns ih =>
  intro vs r
  obtain ⟨x, ys, rfl, q, r2⟩ := r.inv
  obtain ⟨t, rfl⟩ := q.inv
  exact .cons _ _ (ih r2)
section
variable {C : Ct} {n : Nat} {env : Env} {σ σ' σ1 : Loc} {H H' H0 H1 H2 H3 : List HObj} {pos p pos' tpos : Pos} {k : Nat} {x y : Str} {v v1 v2 v3 : V} {e e1 e2 e3 : PySem.Expr} {o : Out} {es : List PySem.Expr} {vs : List V} {a b : Int}
theorem Fn.join {u : V} {ns : List Str} (h : Lsy H u (ns.map .str)) (hok : (ns.map (·.length)).sum + ns.length * x.length ≤ 16777216) : Fn C n (.val (.builtin "str.join")) [.str x, u] [] H H (.str (Txt.join x ns)) := by
 intro A w Q E g xs ks R B rg rx rk K
 obtain ⟨_, rfl⟩ := rg.inv
 obtain ⟨z1, z2, rfl, r1, r2⟩ := rx.inv2
 cases rk.inv0
 obtain ⟨q, vs, m, rfl, e1, r⟩ := h.isL B r2
 obtain ⟨t, rfl⟩ := r1.inv
 refine wpAny_with_toks (Nat.le_refl _) (join_list (isList_ofL e1) (by simpa using strsAre r) hok fun t' k htk => ?_)
 exact K ⟨w.ρ, w.π, _⟩ _ (Ext.toksT htk).step (B.ext (Ext.toksT htk)) (.str _ _)
theorem strRels {w : Wd} : ∀ (l : List (Str × Tok)), VRels w ((l.map (·.1)).map V.str) (strValues l)
 | [] => .nil
 | (x, t) :: l => .cons (.str x t) (strRels l)
theorem Fn.split (h1 : x.length ≤ sizeLine) (h2 : (spaceWords x (x.length + 1)).length ≤ sizeLine) : Fn C n (.val (.builtin "str.split")) [.str x] [] H H (.lst ((Txt.words x).map .str)) := by
 intro A w Q E g xs ks R B rg rx rk K
 obtain ⟨_, rfl⟩ := rg.inv
 obtain ⟨z1, rfl, r1⟩ := rx.inv1
 cases rk.inv0
 obtain ⟨t, rfl⟩ := r1.inv
 refine wpAny_with_toks (Nat.le_refl _) (call_meets F.slot_str_split (typeIs_str _ _ _) F.entry_str_split (F.args_str_split_1 _) (meets_str_split_space x t h1 h2) ?_)
 have fin : ∀ (l : List (Str × Tok)) (tk : Nat), l.map (·.1) = Txt.words x → w.s.toks ≤ tk → Q (.ref w.s.heap.objs.size) { w.s with heap := w.s.heap.push { cls := .type "list", data := .seq (strValues l).toArray }, toks := tk } := fun l tk hl htk => by
  have X : Ext w ⟨w.ρ, w.π, { w.s with heap := w.s.heap.push { cls := .type "list", data := .seq (strValues l).toArray }, toks := tk }⟩ := ⟨rfl, fun q_ q_ e => Heap.get?_push_of_some _ e, rfl, rfl, rfl, htk⟩
  exact K ⟨w.ρ, w.π, _⟩ _ X.step (B.ext X) (.lst (n := 0) (Heap.get?_push_size _ rfl) (B.fresh (size_none _)) (hl ▸ (strRels l)))
 cases hw : spaceWords x (x.length + 1) == [(0, x.length)]
 ·simp only [Bool.false_eq_true, if_false]
  rw [strsFrom_eq]
  intro htk
  exact fin (numbered w.s.toks (PySem.wordsOf x)) _ ((numbered_texts _ _).trans (if_neg (ne_true_of_eq_false hw)).symm) htk
 ·simp only [if_true]
  intro htk
  exact fin [(x, t)] _ (if_pos hw).symm htk
end
end
section
noncomputable def FnI (C : Ct) (n : Nat) (f : V) (args : List V) (H H' : List HObj) (Ok : List HObj → Prop) (T : PySem.Expr → Bool) (l : List V) : Prop :=
 ∀ (A : Around) (w : Wd) (Q E : Value → Shared → Prop) (g : Value) (xs : List Value), Room A n → BSt C w H → VRel w f g → VRels w args xs →
  (∀ w' it X P P', Step [] w w' → BSt C w' H' → (∀ a ∈ X, w.h.get? a = none) → NextB C n Ok T it X l P P' → P 0 w' → Q it w'.s) → wpAny C.M A (call g xs []) (fun y s => wpAny C.M A (pyIter y) Q E s) E w.s
noncomputable def isTupT : PySem.Expr → Bool
 | .Tuple .. => true
 | _ => false
theorem isTup_inv {e : PySem.Expr} (h : isTupT e = true) : ∃ es k pos, e = .Tuple es k pos := by
 cases e <;> first | exact ⟨_, _, _, rfl⟩ | exact Bool.noConfusion h
section
variable {C : Ct} {n : Nat} {env : Env} {σ σ' σ1 : Loc} {H H' H0 H1 H2 H3 : List HObj} {pos p pos' tpos : Pos} {k : Nat} {x y : Str} {v v1 v2 v3 : V} {e e1 e2 e3 : PySem.Expr} {o : Out} {es : List PySem.Expr} {vs : List V} {a b : Int}
theorem SrcE.call {f : V} {id : Str} {Ok : List HObj → Prop} {T : PySem.Expr → Bool} {l : List V} (hf : Ev C n env σ H (.Name id p) H1 f) (ha : EvA C n env σ H1 pos es [] H2 vs [])
  (hc : FnI C n f vs H2 H3 Ok T l) (hk : Kp C f) (hp : ∀ env : Env, ((backTo pos (starEach es env)).any (·.1) || (backToKw pos (keywordEach [] env)).any (·.1.isNone)) = false) : SrcE C n env σ H (.Call (.Name id p) es [] pos) H3 Ok T l := by
 intro A w Q E R B F K
 refine wpAny_Call_Name_kw (hf A w _ E R B F fun w1 g S1 B1 F1 r1 => ?_)
 refine callWith_of (P := KpAt C g) (hp env) (fun q_ z => z) (ha A w1 g _ E R B1 F1 fun w2 ys zs S2 B2 F2 r2 r3 => ⟨hk w2 H2 g B2 (r1.step0 S2), ?_⟩)
 cases r3.inv0
 exact hc A w2 Q E g ys R B2 (r1.step0 S2) r2 fun w3 it X P P' S3 B3 hX N p3 => K w2 w3 it X P P' H2 (S1.trans S2) B2 F2 S3 B3 hX N p3
noncomputable def enumV (l : List V) : List V := l.zipIdx.map fun p => .tup [.int p.2, p.1]
theorem enumV_at {l : List V} {i : Nat} {v : V} (h : (enumV l)[i]? = some v) : ∃ u, l[i]? = some u ∧ v = .tup [.int i, u] := by
 unfold enumV at h
 rw [List.getElem?_map, List.getElem?_zipIdx] at h
 cases q : l[i]? with
 | none => rw [q] at h; cases h
 | some u => rw [q] at h; simp at h; exact ⟨u, rfl, h.symm⟩
theorem enumV_len {l : List V} : (enumV l).length = l.length := by simp [enumV]
theorem FnI.enum {u : V} {l : List V} (hl : Lsy H u l) : FnI C n (.val (.type "enumerate")) [u] H H (fun H' => Lsy H' u l) isTupT (enumV l) := by
 intro A w Q E g xs R B rg rx K
 obtain ⟨_, rfl⟩ := rg.inv
 obtain ⟨x, rfl, r1⟩ := rx.inv1
 obtain ⟨q, vs, m, rfl, e1, r⟩ := hl.isL B r1
 refine call_enumerate_list (isList_ofL e1) fun h' he hit hsz hk => wpAny_pyIter_enum he ?_
 have X1 : Ext w ⟨w.ρ, w.π, { w.s with heap := h' }⟩ := ⟨rfl, hk, rfl, rfl, rfl, Nat.le_refl _⟩
 have nw : ∀ a, w.s.heap.objs.size ≤ a → w.h.get? a = none := fun a ha => by
  cases z : w.h.get? a with
  | none => rfl
  | some o => exact absurd (Heap.lt_size z) (Nat.not_lt.mpr ha)
 generalize hI : w.s.heap.objs.size = I at he hit
 have hIe : I ≠ I + 1 := Nat.ne_of_lt (Nat.lt_succ_self _)
 refine K ⟨w.ρ, w.π, { w.s with heap := h' }⟩ (.ref (I + 1)) [I + 1, I] (fun i w' => VRel w' u (.ref q) ∧ w'.h.IsListIter I q i ∧ ∃ old, IsEnum w'.h (I + 1) I i old)
  (fun i y w' => VRel w' u (.ref q) ∧ w'.h.IsListIter I q i ∧ ∃ a x, y = .ref a ∧ IsEnumOut w'.h (I + 1) I i x a) X1.step (B.ext X1) (fun a ha => ?_) (NextOk.b ?_) ⟨r1.ext X1, hit, _, he⟩
 ·rcases List.mem_cons.mp ha with rfl | ha
  ·exact nw _ (by lia)
  ·rw [List.mem_singleton.mp ha]; exact nw _ (by lia)
 ·clear X1 hk hsz nw he hit hI e1 r r1 rx hl
  refine ⟨fun A w1 Q E R p K => let ⟨_, h⟩ := p.2.2; wpAny_pyIter_enum h K, ?_, ?_, ?_, ?_, ?_, ?_⟩
  ·rintro i w' ⟨_, ⟨o, ho, hc, hd⟩, old, he⟩ b hb
   rcases List.mem_cons.mp hb with rfl | hb
   ·exact ⟨_, _, _, he, rfl, rfl, by decide⟩
   ·rw [List.mem_singleton.mp hb]; exact ⟨o, _, _, ho, hd, hc, by decide⟩
  ·rintro i y w' ⟨_, ⟨o, ho, hc, hd⟩, a, x, _, he⟩ b hb
   rcases List.mem_cons.mp hb with rfl | hb
   ·exact ⟨_, _, _, he, rfl, rfl, by decide⟩
   ·rw [List.mem_singleton.mp hb]; exact ⟨o, _, _, ho, hd, hc, by decide⟩
  ·rintro i w1 w2 Y ⟨r1, ⟨o, ho, hc, hd⟩, old, he⟩ S hY hXY hρ
   exact ⟨r1.step hY S, ⟨o, S.keep _ o ho (hρ I (.tail _ (.head _))) (hXY I (.tail _ (.head _))), hc, hd⟩, old, S.keep _ _ he (hρ _ (.head _)) (hXY _ (.head _))⟩
  ·rintro i v A w1 H1 Q E hi R B1 ok ⟨r1, hit, old, he⟩ hX K
   obtain ⟨u', hu, rfl⟩ := enumV_at hi
   obtain ⟨vs, m, ho, rv⟩ := r1.at B1 ok
   obtain ⟨z, h1, h2⟩ := rv.get hu
   refine wpAny_pyNext_enum_item he hit (isList_of ho) (by simpa using h1) (Ne.symm hIe) fun h' he' hit' ht' hsz' hk' => ?_
   obtain ⟨S, ks⟩ := step_two (w := w1) (a := I + 1) (b := I) (h' := h') (t := w1.s.toks + 1) (Nat.le_succ _) (fun b o p q e => hk' b o p q e)
   refine K ⟨w1.ρ, w1.π, _⟩ _ S rfl ks ⟨r1.step hX S, hit', _, _, rfl, he'⟩ ?_
   exact .tup (vs := [.int i w1.s.toks, z]) (n := 0) ht' (B1.fresh (size_none _)) (.cons (.int _ _) (.cons (h2.step hX S) .nil))
  ·rintro A w1 H1 Q E R B1 ok ⟨r1, hit, old, he⟩ hX K
   obtain ⟨vs, m, ho, rv⟩ := r1.at B1 ok
   rw [enumV_len] at hit he
   refine wpAny_pyNext_enum_end R.hd he hit (isList_of ho) ?_ fun h' hs => ?_
   ·rw [← rv.length]; simp
   ·obtain ⟨S, ks⟩ := step_two (w := w1) (a := I + 1) (b := I) (h' := h') (t := w1.s.toks) (Nat.le_refl _) (fun b o p q e => hs b o q e)
    exact K ⟨w1.ρ, w1.π, _⟩ S rfl ks
  ·rintro i A w1 H1 target v y Q E hT _ ⟨r1, hit, a, x, rfl, he⟩ hX B1 rv K
   obtain ⟨_, _, _, rfl⟩ := isTup_inv hT
   refine wpAny_letOwnedTupleGo_enum he fun h' he' hs => ?_
   obtain ⟨S, ks⟩ := step_two (w := w1) (a := I + 1) (b := I) (h' := h') (t := w1.s.toks) (Nat.le_refl _) (fun b o p q e => (hs.2 b p).trans e)
   exact K ⟨w1.ρ, w1.π, _⟩ S rfl ks ⟨r1.step hX S, hit.extBut hs.extBut hIe, x, he'⟩
end
end
section
inductive Turn (C : Ct) (n : Nat) (env : Env) (target : PySem.Expr) (body : List PySem.Stmt) (v : V) (σ : Loc) (H : List HObj) (σ' : Loc) (H' : List HObj) : Prop
 | mk {σ0 σ1} : As C n env target v σ H σ0 → Ex C n env σ0 H body (.next σ1 H') → (∀ x u, σ'.lookup x = some u → σ1.lookup x = some u) → Turn C n env target body v σ H σ' H'
section
variable {C : Ct} {n : Nat} {env : Env} {σ σ' σ1 : Loc} {H H' H0 H1 H2 H3 : List HObj} {pos p pos' tpos : Pos} {k : Nat} {x y : Str} {v v1 v2 v3 : V} {e e1 e2 e3 : PySem.Expr} {o : Out} {es : List PySem.Expr} {vs : List V} {a b : Int}
theorem Typ.str : Typ C H (.str x) "str" := fun w y q_ r => by obtain ⟨_, rfl⟩ := r.inv; exact ⟨typeIs_str _ _ _, fun q_ e => nomatch e⟩
theorem Typ.lst {u : V} {l : List V} (h : Lsy H u l) : Typ C H u "list" := fun w y B r => by
 obtain ⟨q, vs, m, rfl, e1, _⟩ := h.isL B r
 exact ⟨⟨_, e1, rfl⟩, fun a e => by cases e; exact ⟨_, e1, rfl⟩⟩
theorem Fo.run {target : PySem.Expr} {body : List PySem.Stmt} {Ok : List HObj → Prop} {l : List V} (S : Nat → Loc) (G : Nat → List HObj) (hok : ∀ i, i ≤ l.length → Ok (G i))
  (turn : ∀ i v, l[i]? = some v → Turn C n env target body v (S i) (G i) (S (i + 1)) (G (i + 1))) : ∀ {j : Nat} {m : List V}, l.drop j = m → j ≤ l.length → Fo C n env target body Ok m (S j) (G j) (.next (S l.length) (G l.length)) := by
 intro j m
 induction m generalizing j with
 | nil =>
  intro h hj
  have : j = l.length := by
   have := congrArg List.length h
   simp at this; lia
  subst this
  exact Fo.nil (hok _ (Nat.le_refl _))
 | cons v m ih =>
  intro h hj
  obtain ⟨h1, h2⟩ := drop_cons h
  have hlt : j < l.length := (List.getElem?_eq_some_iff.mp h1).1
  obtain ⟨ha, hb, hs⟩ := turn j v h1
  exact Fo.cons (hok j hj) ha hb (Fo.weak hs (ih h2 hlt))
theorem Fo.runs {target : PySem.Expr} {body : List PySem.Stmt} {Ok : List HObj → Prop} {l : List V} (S : Nat → Loc) (G : Nat → List HObj) (hS : ∀ x u, (S 0).lookup x = some u → σ.lookup x = some u) (hG : G 0 = H) (hok : ∀ i, i ≤ l.length → Ok (G i))
  (turn : ∀ i v, l[i]? = some v → Turn C n env target body v (S i) (G i) (S (i + 1)) (G (i + 1))) : Fo C n env target body Ok l σ H (.next (S l.length) (G l.length)) := by
 subst hG
 exact Fo.weak hS (Fo.run S G hok turn rfl (Nat.zero_le _))
theorem Co.map {target elt : PySem.Expr} {cenv : Env} {α : Type} {f g : α → V} {l : List α} (h : ∀ a ∈ l, ∃ σ0, (∀ K, Ast C n cenv [cenv.locals] target (f a) σ (H ++ K) σ0) ∧ (∀ K, Ev C n cenv σ0 (H ++ K) elt (H ++ K) (g a)) ∧ (g a).dat = true ∧ (∀ x v, σ.lookup x = some v → σ0.lookup x = some v)) :
  Co C n cenv target [] elt σ H (l.map f) (l.map g) := by
 induction l with
 | nil => exact .nil
 | cons a l ih =>
  obtain ⟨σ0, h1, h2, h3, h4⟩ := h a (.head _)
  exact .cons h1 (fun K A w Q E R B F Kk => wpAny_tests_nil (Kk w (Step.refl _ _) B F)) h2 h3 h4 (ih fun b m => h b (.tail _ m))
theorem TstL.one {b : Bool} (h : Tst C n env σ H e H b) : TstL C n env σ H [e] b := fun A w Q E R B F K => wpAny_tests_one (h A w Q E R B F fun w' S B' F' => K w' S B' F')
theorem Co.pick {target elt : PySem.Expr} {ifs : List PySem.Expr} {cenv : Env} {α : Type} {f g : α → V} {p : α → Bool} {l : List α}
  (h : ∀ a ∈ l, ∃ σ0, (∀ K, Ast C n cenv [cenv.locals] target (f a) σ (H ++ K) σ0) ∧ (∀ K, TstL C n cenv σ0 (H ++ K) ifs (p a)) ∧ (p a = true → (∀ K, Ev C n cenv σ0 (H ++ K) elt (H ++ K) (g a)) ∧ (g a).dat = true) ∧ (∀ x v, σ.lookup x = some v → σ0.lookup x = some v)) :
  Co C n cenv target ifs elt σ H (l.map f) ((l.filter p).map g) := by
 induction l with
 | nil => exact .nil
 | cons a l ih =>
  obtain ⟨σ0, h1, h2, h3, h4⟩ := h a (.head _)
  have ih' := ih fun b m => h b (.tail _ m)
  rw [List.map_cons, List.filter_cons]
  cases hp : p a with
  | false =>
   rw [hp] at h2
   rw [if_neg (by decide)]
   exact .skip h1 h2 h4 ih'
  | true =>
   rw [hp] at h2
   rw [if_pos rfl, List.map_cons]
   exact .cons h1 h2 (h3 hp).1 (h3 hp).2 h4 ih'
theorem Mth.lower (h : x.length ≤ 100000) : Mth C n (Str.ofString "lower") (.str x) [] H H (.str (Txt.lower x)) "str" "str.lower" := ⟨F.plainAttrs_str, F.slot_str_lower, F.type_str_lower, Fn.lower h⟩
theorem Mth.swapcase (h : x.length ≤ 100000) : Mth C n (Str.ofString "swapcase") (.str x) [] H H (.str (Txt.swapcase x)) "str" "str.swapcase" := ⟨F.plainAttrs_str, F.slot_str_swapcase, F.type_str_swapcase, Fn.swapcase h⟩
theorem Mth.split (h1 : x.length ≤ sizeLine) (h2 : (Builtin.Str.spaceWords x (x.length + 1)).length ≤ sizeLine) : Mth C n (Str.ofString "split") (.str x) [] H H (.lst ((Txt.words x).map .str)) "str" "str.split" := ⟨F.plainAttrs_str, F.slot_str_split, F.type_str_split, Fn.split h1 h2⟩
theorem Mth.join {u : V} {ns : List Str} (h : Lsy H u (ns.map .str)) (hok : (ns.map (·.length)).sum + ns.length * x.length ≤ 16777216) : Mth C n (Str.ofString "join") (.str x) [u] H H (.str (Txt.join x ns)) "str" "str.join" := ⟨F.plainAttrs_str, F.slot_str_join, F.type_str_join, Fn.join h hok⟩
theorem Mth.index {u : V} {ns : List Str} {j : Nat} (h : Lsy H u (ns.map .str)) (hj : ns[j]? = some x) (hno : ∀ i, i < j → ns[i]? ≠ some x) (hl : ns.length < 2 ^ 60) : Mth C n (Str.ofString "index") u [.str x] H H (.int j) "list" "list.index" := ⟨F.plainAttrs_list, F.slot_list_index, F.type_list_index, Fn.index h hj hno hl⟩
theorem Mth.append {i : Nat} {l : List V} (hH : H[i]? = some (.list l)) (hd : v.dat = true) (hlen : l.length ≤ sizeLine) : Mth C n (Str.ofString "append") (.ref i) [v] H (H.set i (.list (l ++ [v]))) .none "list" "list.append" := ⟨F.plainAttrs_list, F.slot_list_append, F.type_list_append, Fn.append hH hd hlen⟩
theorem Mth.insert {i j : Nat} {l : List V} (hH : H[i]? = some (.list l)) (hd : v.dat = true) (hj : j ≤ l.length) (hlen : l.length ≤ sizeLine) : Mth C n (Str.ofString "insert") (.ref i) [.int j, v] H (H.set i (.list (l.take j ++ v :: l.drop j))) .none "list" "list.insert" := ⟨F.plainAttrs_list, F.slot_list_insert, F.type_list_insert, Fn.insert hH hd hj hlen⟩
end
end
section
open PySem.Float64
set_option exponentiation.threshold 3000
noncomputable def fl (p : Int) : UInt64 := ofFrac (decide (p < 0)) p.natAbs (2 ^ 30)
theorem V_inj {t t' : Nat} (h : Float64.V t = Float64.V t') : t = t' := by
 rcases Nat.lt_trichotomy t t' with q | q | q
 ·have := V_lt q; lia
 ·exact q
 ·have := V_lt q; lia
theorem V_last : Float64.V (infMag - 1) = (2 ^ 53 - 1) * 2 ^ 2045 := by
 have h : infMag - 1 = 2045 * 2 ^ 52 + (2 ^ 53 - 1) := by decide
 rw [h]; exact V_at (by decide) (.inl (by decide))
theorem dist_self (a : Nat) : Float64.dist a a = 0 := by unfold Float64.dist; lia
theorem dist_zero {a b : Nat} (h : Float64.dist a b = 0) : a = b := by unfold Float64.dist at h; lia
theorem right_exact {r : UInt64} {neg : Bool} {W D t : Nat} (h : Right r neg W D) (hD : 0 < D) (hW : W = D * Float64.V t) (ht : t < infMag) : r = pack neg t := by
 obtain ⟨t0, hr, hle, hov, hnear⟩ := h
 have hlt : t0 < infMag := by
  rcases Nat.lt_or_ge t0 infMag with q | q
  ·exact q
  ·have e : t0 = infMag := Nat.le_antisymm hle q
   have h1 := hov.mp e
   have h2 : Float64.V t ≤ (2 ^ 53 - 1) * 2 ^ 2045 := by rw [← V_last]; exact V_mono (by exact Nat.le_of_lt_succ (by assumption))
   rw [hW] at h1
   have h3 : D * ((2 ^ 54 - 1) * 2 ^ 2045) ≤ D * (2 * ((2 ^ 53 - 1) * 2 ^ 2045)) := Nat.le_trans h1 (by rw [Nat.mul_left_comm]; exact Nat.mul_le_mul_left _ (Nat.mul_le_mul_left _ h2))
   have h4 := Nat.le_of_mul_le_mul_left h3 hD
   rw [← Nat.mul_assoc] at h4
   have h5 := Nat.le_of_mul_le_mul_right h4 (Nat.two_pow_pos _)
   exact absurd h5 (by decide)
 have h1 := (hnear hlt t).1
 rw [hW, dist_self] at h1
 have h2 := dist_zero (Nat.le_zero.mp h1)
 have h3 := V_inj (Nat.eq_of_mul_eq_mul_left hD h2)
 rw [hr, h3]
theorem V_some {n : Nat} (h : n < 2 ^ 53) : ∃ t, t < infMag ∧ Float64.V t = n * 2 ^ 1044 := by
 by_cases h0 : n = 0
 ·subst h0; exact ⟨0, by decide, by rw [V_zero, Nat.zero_mul]⟩
 ·have hl : n.log2 ≤ 52 := by have := (Nat.log2_lt h0).mpr h; exact Nat.le_of_lt_succ (by assumption)
  have e1 : 2 ^ n.log2 ≤ n := Nat.log2_self_le h0
  have e2 : n < 2 ^ (n.log2 + 1) := Nat.lt_log2_self
  have e3 : n * 2 ^ (52 - n.log2) < 2 ^ 53 := by
   have : 2 ^ (n.log2 + 1) * 2 ^ (52 - n.log2) = 2 ^ 53 := by rw [← Nat.pow_add]; congr 1; lia
   rw [← this]; exact Nat.mul_lt_mul_of_pos_right e2 (Nat.two_pow_pos _)
  have e4 : 2 ^ 52 ≤ n * 2 ^ (52 - n.log2) := by
   have : 2 ^ n.log2 * 2 ^ (52 - n.log2) = 2 ^ 52 := by rw [← Nat.pow_add]; congr 1; lia
   rw [← this]; exact Nat.mul_le_mul_right _ e1
  refine ⟨(992 + n.log2) * 2 ^ 52 + n * 2 ^ (52 - n.log2), ?_, ?_⟩
  ·have : infMag = 2047 * 2 ^ 52 := rfl
   lia
  ·rw [V_at (Nat.le_of_lt e3) (.inl e4), Nat.mul_assoc, ← Nat.pow_add]
   congr 2; lia
theorem fl_pack {p : Int} (h : p.natAbs < 2 ^ 53) : ∃ t, t < infMag ∧ Float64.V t = p.natAbs * 2 ^ 1044 ∧ fl p = pack (decide (p < 0)) t := by
 obtain ⟨t, h1, h2⟩ := V_some h
 refine ⟨t, h1, h2, ?_⟩
 have hR : Right (fl p) (decide (p < 0)) (p.natAbs * 2 ^ 1044) 1 := ofFrac_right (by decide) (by rw [Nat.mul_one, Nat.mul_assoc, ← Nat.pow_add]) (by decide)
 exact right_exact hR (by decide) (by rw [Nat.one_mul]; exact h2.symm) h1
theorem is_fl {r : UInt64} {neg : Bool} {W D : Nat} {q : Int} (h : Right r neg W D) (hD : 0 < D) (hW : W = D * (q.natAbs * 2 ^ 1044)) (hn : neg = decide (q < 0)) (hq : q.natAbs < 2 ^ 53) : r = fl q := by
 obtain ⟨t, h1, h2, h3⟩ := fl_pack hq
 rw [h3, ← hn]
 exact right_exact h hD (by rw [h2]; exact hW) h1
theorem pow_cast (n : Nat) : ((2 ^ n : Nat) : Int) = (2 : Int) ^ n := by simp
theorem natAbs_val {p : Int} : (p * 2 ^ 1044).natAbs = p.natAbs * 2 ^ 1044 := by
 rw [Int.natAbs_mul, ← pow_cast, Int.natAbs_natCast]
theorem sgn_abs (p : Int) (k : Nat) : sgn (decide (p < 0)) (p.natAbs * k) = p * (k : Int) := by
 unfold sgn
 by_cases h : p < 0
 ·rw [decide_eq_true h, if_pos rfl, Int.natCast_mul, ← Int.neg_mul]
  congr 1; omega
 ·rw [decide_eq_false h]
  simp only [Bool.false_eq_true, if_false, Int.natCast_mul]
  congr 1; lia
theorem fl_dec {p : Int} (h : p.natAbs < 2 ^ 53) : ∃ m e, decode (fl p) = .fin (decide (p < 0)) m e ∧ m * 2 ^ (e + 1074).toNat = p.natAbs * 2 ^ 1044 ∧ val (fl p) = p * 2 ^ 1044 ∧ -1074 ≤ e := by
 obtain ⟨t, h1, h2, h3⟩ := fl_pack h
 obtain ⟨m, e, hd, hm⟩ := decode_pack (decide (p < 0)) h1
 rw [h3]
 refine ⟨m, e, hd, hm.trans h2, ?_, decode_ge hd⟩
 rw [val_pack _ h1, h2, sgn_abs, pow_cast]
theorem fl_add {p q : Int} (hp : p.natAbs < 2 ^ 53) (hq : q.natAbs < 2 ^ 53) (hr : (p + q).natAbs < 2 ^ 53) : add (fl p) (fl q) = fl (p + q) := by
 obtain ⟨m, e, hd, _, hv, _⟩ := fl_dec hp
 obtain ⟨k, f, hd', _, hv', _⟩ := fl_dec hq
 obtain ⟨h0, h1⟩ := add_right hd hd'
 have hs : val (fl p) + val (fl q) = (p + q) * 2 ^ 1044 := by rw [hv, hv', Int.add_mul]
 have hpos : (0 : Int) < 2 ^ 1044 := by rw [← pow_cast]; exact Int.ofNat_lt.mpr (Nat.two_pow_pos _)
 by_cases h : p + q = 0
 ·rw [h0 (by rw [hs, h, Int.zero_mul]), h]
  have : (decide (p < 0) && decide (q < 0)) = false := by
   rw [Bool.and_eq_false_iff, decide_eq_false_iff_not, decide_eq_false_iff_not]; lia
  rw [this]; decide +kernel
 ·have hn : val (fl p) + val (fl q) ≠ 0 := by
   rw [hs]; intro z
   rcases Int.mul_eq_zero.mp z with z | z
   ·exact h z
   ·lia
  refine is_fl (h1 hn) (by decide) ?_ ?_ hr
  ·rw [hs, natAbs_val, Nat.one_mul]
  ·rw [hs]
   apply decide_eq_decide.mpr
   constructor
   ·intro z
    rcases Int.lt_or_le (p + q) 0 with y | y
    ·exact y
    ·have := Int.mul_nonneg y (Int.le_of_lt hpos); lia
   ·intro z; exact Int.mul_neg_of_neg_of_pos z hpos
theorem fl_sub {p q : Int} (hp : p.natAbs < 2 ^ 53) (hq : q.natAbs < 2 ^ 53) (hr : (p - q).natAbs < 2 ^ 53) : sub (fl p) (fl q) = fl (p - q) := by
 obtain ⟨m, e, hd, _, hv, _⟩ := fl_dec hp
 obtain ⟨k, f, hd', _, hv', _⟩ := fl_dec hq
 obtain ⟨h0, h1⟩ := sub_right hd hd'
 have hs : val (fl p) - val (fl q) = (p - q) * 2 ^ 1044 := by rw [hv, hv', Int.sub_mul]
 have hpos : (0 : Int) < 2 ^ 1044 := by rw [← pow_cast]; exact Int.ofNat_lt.mpr (Nat.two_pow_pos _)
 by_cases h : p - q = 0
 ·rw [h0 (by rw [hs, h, Int.zero_mul]), h]
  have : (decide (p < 0) && !decide (q < 0)) = false := by
   rw [Bool.and_eq_false_iff, decide_eq_false_iff_not, Bool.not_eq_false', decide_eq_true_iff]; lia
  rw [this]; decide +kernel
 ·have hn : val (fl p) - val (fl q) ≠ 0 := by
   rw [hs]; intro z
   rcases Int.mul_eq_zero.mp z with z | z
   ·exact h z
   ·omega
  refine is_fl (h1 hn) (by decide) ?_ ?_ hr
  ·rw [hs, natAbs_val, Nat.one_mul]
  ·rw [hs]
   apply decide_eq_decide.mpr
   constructor
   ·intro z
    rcases Int.lt_or_le (p - q) 0 with y | y
    ·exact y
    ·have := Int.mul_nonneg y (Int.le_of_lt hpos); lia
   ·intro z; exact Int.mul_neg_of_neg_of_pos z hpos
theorem fl_mul {p q r : Int} (hp : p.natAbs < 2 ^ 53) (hq : q.natAbs < 2 ^ 53) (hr : r.natAbs < 2 ^ 53) (p0 : 0 ≤ p) (q0 : 0 ≤ q) (h : p * q = r * 2 ^ 30) : mul (fl p) (fl q) = fl r := by
 obtain ⟨m, e, hd, _, hv, _⟩ := fl_dec hp
 obtain ⟨k, f, hd', _, hv', _⟩ := fl_dec hq
 have r0 : 0 ≤ r := by
  rcases Int.lt_or_le r 0 with z | z
  ·have := Int.mul_nonneg p0 q0; lia
  ·exact z
 refine is_fl (mul_right hd hd') (Nat.two_pow_pos _) ?_ ?_ hr
 ·rw [hv, hv', natAbs_val, natAbs_val]
  have h' : p.natAbs * q.natAbs = r.natAbs * 2 ^ 30 := by
   have := congrArg Int.natAbs h
   rw [Int.natAbs_mul, Int.natAbs_mul] at this; exact this
  calc p.natAbs * 2 ^ 1044 * (q.natAbs * 2 ^ 1044) = p.natAbs * q.natAbs * (2 ^ 1044 * 2 ^ 1044) := by generalize (2 : Nat) ^ 1044 = K; ac_rfl
   _ = r.natAbs * (2 ^ 30 * (2 ^ 1044 * 2 ^ 1044)) := by rw [h', Nat.mul_assoc]
   _ = 2 ^ 1074 * (r.natAbs * 2 ^ 1044) := by
    rw [show (2 : Nat) ^ 1074 = 2 ^ 30 * 2 ^ 1044 from by rw [← Nat.pow_add]]
    generalize (2 : Nat) ^ 1044 = K; generalize (2 : Nat) ^ 30 = L; ac_rfl
 ·rw [decide_eq_false (by lia), decide_eq_false (by lia), decide_eq_false (by lia)]; rfl
theorem fl_div {p q r : Int} (hp : p.natAbs < 2 ^ 53) (hq : q.natAbs < 2 ^ 53) (hr : r.natAbs < 2 ^ 53) (q0 : 0 < q) (h : p * 2 ^ 30 = r * q) : div (fl p) (fl q) = fl r := by
 obtain ⟨m, e, hd, _, hv, _⟩ := fl_dec hp
 obtain ⟨k, f, hd', hm', hv', _⟩ := fl_dec hq
 have hk : k ≠ 0 := by
  intro z; rw [z, Nat.zero_mul] at hm'
  have : 0 < q.natAbs * 2 ^ 1044 := Nat.mul_pos (by lia) (Nat.two_pow_pos _)
  lia
 refine is_fl (div_right hd hd' hk) ?_ ?_ ?_ hr
 ·rw [hv', natAbs_val]; exact Nat.mul_pos (by lia) (Nat.two_pow_pos _)
 ·rw [hv, hv', natAbs_val, natAbs_val]
  have h' : p.natAbs * 2 ^ 30 = r.natAbs * q.natAbs := by
   have := congrArg Int.natAbs h
   rw [Int.natAbs_mul, Int.natAbs_mul] at this; exact this
  calc p.natAbs * 2 ^ 1044 * 2 ^ 1074
   _ = p.natAbs * 2 ^ 30 * (2 ^ 1044 * 2 ^ 1044) := by
     rw [show (2 : Nat) ^ 1074 = 2 ^ 30 * 2 ^ 1044 from by rw [← Nat.pow_add]]
     generalize (2 : Nat) ^ 1044 = K; generalize (2 : Nat) ^ 30 = L; ac_rfl
   _ = q.natAbs * 2 ^ 1044 * (r.natAbs * 2 ^ 1044) := by rw [h']; generalize (2 : Nat) ^ 1044 = K; ac_rfl
 ·rw [decide_eq_false (p := q < 0) (by lia)]
  have : (decide (p < 0) != false) = decide (p < 0) := by cases decide (p < 0) <;> rfl
  rw [this]
  apply decide_eq_decide.mpr
  constructor
  ·intro z
   rcases Int.lt_or_le r 0 with y | y
   ·exact y
   ·have := Int.mul_nonneg y (Int.le_of_lt q0); lia
  ·intro z
   have := Int.mul_neg_of_neg_of_pos z q0; lia
theorem fl_cmp {p q : Int} (hp : p.natAbs < 2 ^ 53) (hq : q.natAbs < 2 ^ 53) : cmp (fl p) (fl q) = some (compare p q) := by
 obtain ⟨m, e, hd, _, hv, _⟩ := fl_dec hp
 obtain ⟨k, f, hd', _, hv', _⟩ := fl_dec hq
 rw [cmp_right hd hd', hv, hv']
 have hK : (0 : Int) < 2 ^ 1044 := by rw [← pow_cast]; exact Int.ofNat_lt.mpr (Nat.two_pow_pos _)
 generalize (2 : Int) ^ 1044 = K at hK
 congr 1
 rcases Int.lt_trichotomy p q with h | h | h
 ·rw [Int.compare_eq_lt.mpr h, Int.compare_eq_lt.mpr (Int.mul_lt_mul_of_pos_right h hK)]
 ·subst h; simp
 ·rw [Int.compare_eq_gt.mpr h, Int.compare_eq_gt.mpr (Int.mul_lt_mul_of_pos_right h hK)]
theorem fl_cmpInt {p i : Int} (hp : p.natAbs < 2 ^ 53) : cmpInt (fl p) i = some (compare p (i * 2 ^ 30)) := by
 obtain ⟨m, e, hd, _, hv, _⟩ := fl_dec hp
 rw [cmpInt_right hd, hv]
 have e1 : i * 2 ^ 1074 = i * 2 ^ 30 * 2 ^ 1044 := by rw [Int.mul_assoc, ← Int.pow_add]
 rw [e1]
 have hK : (0 : Int) < 2 ^ 1044 := by rw [← pow_cast]; exact Int.ofNat_lt.mpr (Nat.two_pow_pos _)
 generalize (2 : Int) ^ 1044 = K at hK
 generalize i * 2 ^ 30 = q
 congr 1
 rcases Int.lt_trichotomy p q with h | h | h
 ·rw [Int.compare_eq_lt.mpr h, Int.compare_eq_lt.mpr (Int.mul_lt_mul_of_pos_right h hK)]
 ·subst h; simp
 ·rw [Int.compare_eq_gt.mpr h, Int.compare_eq_gt.mpr (Int.mul_lt_mul_of_pos_right h hK)]
theorem fl_ofInt {i : Int} (h : (i * 2 ^ 30).natAbs < 2 ^ 53) : ofInt i = fl (i * 2 ^ 30) := by
 refine is_fl (ofInt_right i) (by decide) ?_ ?_ h
 ·rw [Nat.one_mul, Int.natAbs_mul, show ((2 : Int) ^ 30).natAbs = 2 ^ 30 from rfl, Nat.mul_assoc, ← Nat.pow_add]
 ·apply decide_eq_decide.mpr; lia
theorem fl_isZero {p : Int} (hp : p.natAbs < 2 ^ 53) : isZero (fl p) = decide (p = 0) := by
 rw [PySem.Flt.isZero_eq, fl_cmpInt hp, Int.zero_mul]
 rcases Int.lt_trichotomy p 0 with h | h | h
 ·rw [Int.compare_eq_lt.mpr h, decide_eq_false (by lia)]; rfl
 ·subst h; rfl
 ·rw [Int.compare_eq_gt.mpr h, decide_eq_false (by lia)]; rfl
set_option tactic.hygienic true in
theorem fl_trunc {p : Int} (hp : p.natAbs < 2 ^ 53) (p0 : 0 ≤ p) : ∃ m e, decode (fl p) = .fin false m e ∧ truncOf false m e = p / 2 ^ 30 := by
 obtain ⟨m, e, hd, hm, _, he⟩ := fl_dec hp
 rw [decide_eq_false (by lia : ¬ p < 0)] at hd
 refine ⟨m, e, hd, ?_⟩
 have hpn : (p.natAbs : Int) = p := by lia
 have : (m * 2 ^ e.toNat : Nat) / 2 ^ (-e).toNat = p.natAbs / 2 ^ 30 := by
  have h1 : m * 2 ^ e.toNat * 2 ^ 30 * 2 ^ 1044 = p.natAbs * 2 ^ (-e).toNat * 2 ^ 1044 := by
   have : m * 2 ^ e.toNat * 2 ^ 30 * 2 ^ 1044 = m * 2 ^ (e + 1074).toNat * 2 ^ (-e).toNat := by
    rw [Nat.mul_assoc, Nat.mul_assoc, Nat.mul_assoc, ← Nat.pow_add, ← Nat.pow_add, ← Nat.pow_add]
    congr 2; lia
   rw [this, hm]; generalize (2 : Nat) ^ 1044 = K; ac_rfl
  have h2 := Nat.eq_of_mul_eq_mul_right (Nat.two_pow_pos _) h1
  rw [← Nat.mul_div_mul_right (m * 2 ^ e.toNat) (2 ^ (-e).toNat) (Nat.two_pow_pos 30), h2, Nat.mul_comm (2 ^ (-e).toNat) (2 ^ 30), Nat.mul_div_mul_right _ _ (Nat.two_pow_pos _)]
 have h3 : (p / 2 ^ 30 : Int) = ((p.natAbs / 2 ^ 30 : Nat) : Int) := by lia
 rw [h3, ← this]
 show floorOf false m e = _
 unfold floorOf
 have hs : sgn false m = (m : Int) := rfl
 rw [hs]
 split
 ·rename_i h
  have h0 : (-e).toNat = 0 := by lia
  rw [h0, Nat.pow_zero, Nat.div_one, Int.natCast_mul, pow_cast]
 ·rename_i h
  have h0 : e.toNat = 0 := by lia
  rw [h0, Nat.pow_zero, Nat.mul_one, ← pow_cast, Int.natCast_ediv]
  exact Int.fdiv_eq_ediv_of_nonneg _ (Int.natCast_nonneg _)
theorem one_fl : one = fl (2 ^ 30) := by decide +kernel
theorem exp_split (m : Nat) {e g : Int} (h : -1074 ≤ g) (k : g ≤ e) : m * 2 ^ (e + 1074).toNat = m * 2 ^ (e - g).toNat * 2 ^ (g + 1074).toNat := by
 rw [Nat.mul_assoc, ← Nat.pow_add, ← Int.toNat_add (Int.sub_nonneg.mpr k) (Int.add_le_add_right h 1074), ← Int.add_assoc, Int.sub_add_cancel]
theorem fmod_right {x y : UInt64} {a b : Bool} {m k : Nat} {e f : Int} (hx : decode x = .fin a m e) (hy : decode y = .fin b k f) (hk : k ≠ 0) : Right (fmod x y) a ((val x).natAbs % (val y).natAbs) 1 := by
 have he := decode_ge hx
 have hf := decode_ge hy
 have h : fmod x y = ofBin a ((m * 2 ^ (e - min e f).toNat) % (k * 2 ^ (f - min e f).toNat)) (min e f) := by
  unfold fmod
  rw [hx, hy]
  simp only
  rw [if_neg (by simpa using hk)]
  rfl
 rw [h, val_natAbs hx, val_natAbs hy]
 have hg : -1074 ≤ min e f := Int.le_min.mpr ⟨he, hf⟩
 have e1 := exp_split m hg (Int.min_le_left e f)
 have e2 := exp_split k hg (Int.min_le_right e f)
 rw [e1, e2, Nat.mul_mod_mul_right]
 unfold ofBin
 refine ofFrac_right (shift_pos _ _ _ (by decide)) ?_ (by decide)
 have := shift_one ((m * 2 ^ (e - min e f).toNat) % (k * 2 ^ (f - min e f).toNat)) (min e f) 1074 hg
 rw [Nat.mul_one]
 exact this
theorem fl_neg0 {r : UInt64} {neg : Bool} (h : Right r neg 0 1) : r = pack neg 0 := right_exact h (by decide) (by rw [V_zero]) (by decide)
theorem mod_neg {n r : Nat} (h : n % 2 ^ 30 = r) (h0 : r ≠ 0) : -(r : Int) + 2 ^ 30 = -(n : Int) % 2 ^ 30 := by omega
theorem neg_lt_zero {n : Nat} (h : n ≠ 0) : -(n : Int) < 0 := Int.neg_neg_of_pos (Int.natCast_pos.mpr (Nat.pos_of_ne_zero h))
theorem mod_part (p : Int) (h0 : p.natAbs % 2 ^ 30 ≠ 0) : ∃ q : Int, q.natAbs = p.natAbs % 2 ^ 30 ∧ decide (p < 0) = decide (q < 0) ∧ (q < 0 → q + 2 ^ 30 = p % 2 ^ 30) ∧ (¬ q < 0 → q = p % 2 ^ 30) := by
 obtain ⟨n, rfl | rfl⟩ := Int.eq_nat_or_neg p
 ·rw [Int.natAbs_natCast]
  have h1 : ¬ ((n : Nat) : Int) < 0 := Int.not_lt.mpr (Int.natCast_nonneg n)
  have h2 : ¬ ((n % 2 ^ 30 : Nat) : Int) < 0 := Int.not_lt.mpr (Int.natCast_nonneg _)
  exact ⟨((n % 2 ^ 30 : Nat) : Int), Int.natAbs_natCast _, by rw [decide_eq_false h1, decide_eq_false h2], fun h => absurd h h2, fun q_ => rfl⟩
 ·rw [Int.natAbs_neg, Int.natAbs_natCast] at h0 ⊢
  have h1 : -(n : Int) < 0 := neg_lt_zero fun e => h0 (by rw [e])
  have h2 := neg_lt_zero h0
  exact ⟨-((n % 2 ^ 30 : Nat) : Int), by rw [Int.natAbs_neg, Int.natAbs_natCast], by rw [decide_eq_true h1, decide_eq_true h2], fun q_ => mod_neg rfl h0, fun h => absurd h2 h⟩
theorem mod_small (p : Int) : (p % 2 ^ 30).natAbs < 2 ^ 53 := by omega
theorem mod_zero {p : Int} (h : p.natAbs % 2 ^ 30 = 0) : p % 2 ^ 30 = 0 := Int.emod_eq_zero_of_dvd (Int.natAbs_dvd_natAbs.mp (Nat.dvd_of_mod_eq_zero h))
theorem fl_mod1 {p : Int} (hp : p.natAbs < 2 ^ 53) : (divmod (fl p) one).2 = fl (p % 2 ^ 30) := by
 obtain ⟨m, e, hd, _, hv, _⟩ := fl_dec hp
 have h1 : ((2 : Int) ^ 30).natAbs < 2 ^ 53 := by decide
 obtain ⟨k, f, hd', hm', hv', _⟩ := fl_dec h1
 have hk : k ≠ 0 := by
  intro z; rw [z, Nat.zero_mul] at hm'
  have : 0 < ((2 : Int) ^ 30).natAbs * 2 ^ 1044 := Nat.mul_pos (by decide) (Nat.two_pow_pos _)
  lia
 have hR := fmod_right hd hd' hk
 rw [hv, hv', natAbs_val, natAbs_val, Nat.mul_mod_mul_right, ← one_fl] at hR
 have e30 : ((2 : Int) ^ 30).natAbs = 2 ^ 30 := by decide
 rw [e30] at hR
 have key : (divmod (fl p) one).2 = (if isZero (fmod (fl p) one) then copysign (zero false) one else if lt one (zero false) != lt (fmod (fl p) one) (zero false) then add (fmod (fl p) one) one else fmod (fl p) one) := by
  unfold divmod
  dsimp only
  split
  ·rfl
  ·split <;> rfl
 rw [key]
 by_cases h0 : p.natAbs % 2 ^ 30 = 0
 ·rw [h0, Nat.zero_mul] at hR
  rw [fl_neg0 hR]
  rw [mod_zero h0]
  generalize decide (p < 0) = b
  cases b <;> decide +kernel
 ·obtain ⟨q, qa, qd, qn, qp⟩ := mod_part p h0
  have q1 : q.natAbs < 2 ^ 53 := qa ▸ Nat.lt_trans (Nat.mod_lt _ (Nat.two_pow_pos 30)) (by decide)
  have q2 : q ≠ 0 := fun e => h0 (by rw [← qa, e]; rfl)
  have hm : fmod (fl p) one = fl q := is_fl hR (by decide) (by rw [Nat.one_mul, qa]) qd q1
  have hz : zero false = fl 0 := by decide +kernel
  rw [hm, fl_isZero q1, decide_eq_false q2, if_neg Bool.false_ne_true]
  have l1 : lt one (zero false) = false := by decide +kernel
  have l2 : lt (fl q) (zero false) = decide (q < 0) := by
   show (cmp (fl q) (zero false) == some .lt) = _
   rw [hz, fl_cmp q1 (by decide)]
   rcases Int.lt_or_gt_of_ne q2 with h | h
   ·rw [Int.compare_eq_lt.mpr h, decide_eq_true h]; rfl
   ·rw [Int.compare_eq_gt.mpr h, decide_eq_false (Int.not_lt.mpr (Int.le_of_lt h))]; rfl
  rw [l1, l2]
  by_cases hn : q < 0
  ·have e := qn hn
   have f : (q + 2 ^ 30).natAbs < 2 ^ 53 := by rw [e]; exact mod_small p
   rw [decide_eq_true hn, if_pos (by decide), one_fl, fl_add q1 h1 f, e]
  ·rw [decide_eq_false hn, if_neg (by decide), qp hn]
end
section
set_option exponentiation.threshold 3000
noncomputable abbrev Fits (p : Int) : Prop := p.natAbs < 2 ^ 53
section
variable {C : Ct} {n : Nat} {env : Env} {σ σ' σ1 : Loc} {H H' H0 H1 H2 H3 : List HObj} {pos p0 pos' tpos : Pos} {k : Nat} {x y : Str} {v v1 v2 v3 : V} {e e1 e2 e3 : PySem.Expr} {o : Out} {p q r i j : Int} {a b : UInt64}
theorem tok_ne {w : Wd} (ht : C.tp) (B : BSt C w H) : w.s.toks ≠ 0 := Nat.ne_of_gt (B.tok ht)
theorem Ev.fl {i : UInt64} {p : Int} (h : i = fl p) (ht : C.tp := by trivial) : Ev C n env σ H (.Constant (.float i) k pos) H (.flt (fl p)) := h ▸ Ev.flt ht
theorem Bin.addF (hp : Fits p) (hq : Fits q) (hr : Fits (p + q)) (ht : C.tp := by trivial) : Bin C n .Add (.flt (fl p)) (.flt (fl q)) H H (.flt (fl (p + q))) := by
 intro A w Q E x y R B rx ry K
 obtain ⟨_, rfl, _⟩ := rx.inv; obtain ⟨_, rfl, _⟩ := ry.inv
 exact add_float (by rw [fl_add hp hq hr]; exact K ⟨w.ρ, w.π, _⟩ _ Ext.toks.step (B.ext Ext.toks) (.flt _ _ (tok_ne ht B)))
theorem Bin.subF (hp : Fits p) (hq : Fits q) (hr : Fits (p - q)) (ht : C.tp := by trivial) : Bin C n .Sub (.flt (fl p)) (.flt (fl q)) H H (.flt (fl (p - q))) := by
 intro A w Q E x y R B rx ry K
 obtain ⟨_, rfl, _⟩ := rx.inv; obtain ⟨_, rfl, _⟩ := ry.inv
 exact sub_float (by rw [fl_sub hp hq hr]; exact K ⟨w.ρ, w.π, _⟩ _ Ext.toks.step (B.ext Ext.toks) (.flt _ _ (tok_ne ht B)))
theorem Bin.mulF (hp : Fits p) (hq : Fits q) (hr : Fits r) (p0 : 0 ≤ p) (q0 : 0 ≤ q) (h : p * q = r * 2 ^ 30) (ht : C.tp := by trivial) : Bin C n .Mult (.flt (fl p)) (.flt (fl q)) H H (.flt (fl r)) := by
 intro A w Q E x y R B rx ry K
 obtain ⟨_, rfl, _⟩ := rx.inv; obtain ⟨_, rfl, _⟩ := ry.inv
 exact mul_float (by rw [fl_mul hp hq hr p0 q0 h]; exact K ⟨w.ρ, w.π, _⟩ _ Ext.toks.step (B.ext Ext.toks) (.flt _ _ (tok_ne ht B)))
theorem Bin.divR (hb : Float64.isZero b = false) (ht : C.tp := by trivial) : Bin C n .Div (.flt a) (.flt b) H H (.flt (Float64.div a b)) := by
 intro A w Q E x y R B rx ry K
 obtain ⟨_, rfl, _⟩ := rx.inv; obtain ⟨_, rfl, _⟩ := ry.inv
 exact AutoFloatOps.truediv_1 (by rw [hb]; decide) (K ⟨w.ρ, w.π, _⟩ _ Ext.toks.step (B.ext Ext.toks) (.flt _ _ (tok_ne ht B)))
theorem Bin.divF (hp : Fits p) (hq : Fits q) (hr : Fits r) (q0 : 0 < q) (h : p * 2 ^ 30 = r * q) (ht : C.tp := by trivial) : Bin C n .Div (.flt (fl p)) (.flt (fl q)) H H (.flt (fl r)) := by
 have := Bin.divR (C := C) (n := n) (H := H) (a := fl p) (b := fl q) (by rw [fl_isZero hq]; exact decide_eq_false (by lia)) ht
 rwa [fl_div hp hq hr q0 h] at this
theorem Bin.modF (hp : Fits p) (ht : C.tp := by trivial) : Bin C n .Mod (.flt (fl p)) (.flt (fl (2 ^ 30))) H H (.flt (fl (p % 2 ^ 30))) := by
 intro A w Q E x y R B rx ry K
 obtain ⟨_, rfl, _⟩ := rx.inv; obtain ⟨_, rfl, _⟩ := ry.inv
 refine AutoFloatOps.mod_1 (by rw [fl_isZero (by decide)]; decide) ?_
 rw [← one_fl, fl_mod1 hp]
 exact K ⟨w.ρ, w.π, _⟩ _ Ext.toks.step (B.ext Ext.toks) (.flt _ _ (tok_ne ht B))
theorem Bin.divII (hb : 0 < j) (hi : 0 ≤ i) (hs : i < 2 ^ 60) (ht : C.tp := by trivial) : Bin C n .Div (.int i) (.int j) H H (.flt (Float64.ofFrac false i.natAbs j.natAbs)) := by
 intro A w Q E x y R B rx ry K
 obtain ⟨_, rfl⟩ := rx.inv; obtain ⟨_, rfl⟩ := ry.inv
 have e : (decide (i < 0) != decide (j < 0)) = false := by rw [decide_eq_false (by lia), decide_eq_false (by lia)]; rfl
 refine Flt.div_ii_fits R.hd (Nat.lt_of_lt_of_le (show i.natAbs < 2 ^ 60 by lia) (Nat.pow_le_pow_right (by decide) (by decide))) (fun h => by lia) fun q_ q_ => ?_
 rw [e]
 exact K ⟨w.ρ, w.π, _⟩ _ Ext.toks.step (B.ext Ext.toks) (.flt _ _ (tok_ne ht B))
theorem ofFrac_fl (hj : 0 < j) (hi : 0 ≤ i) (hr : Fits r) (h : i * 2 ^ 30 = r * j) : Float64.ofFrac false i.natAbs j.natAbs = fl r := by
 have r0 : 0 ≤ r := by
  rcases Int.lt_or_le r 0 with z | z
  ·have := Int.mul_neg_of_neg_of_pos z hj; omega
  ·exact z
 refine is_fl (D := 1) (W := r.natAbs * 2 ^ 1044) (Float64.ofFrac_right (by omega) ?_ (by decide)) (by decide) (by rw [Nat.one_mul]) (by rw [decide_eq_false (by lia)]) hr
 have h' : i.natAbs * 2 ^ 30 = r.natAbs * j.natAbs := by
  have := congrArg Int.natAbs h
  rw [Int.natAbs_mul, Int.natAbs_mul] at this; exact this
 rw [Nat.mul_one, show (2 : Nat) ^ 1074 = 2 ^ 30 * 2 ^ 1044 from by rw [← Nat.pow_add], ← Nat.mul_assoc, h']
 generalize (2 : Nat) ^ 1044 = K; ac_rfl
theorem Bin.divIF (hb : 0 < j) (hi : 0 ≤ i) (hs : i < 2 ^ 60) (hr : Fits r) (h : i * 2 ^ 30 = r * j) (ht : C.tp := by trivial) : Bin C n .Div (.int i) (.int j) H H (.flt (fl r)) := by
 have := Bin.divII (C := C) (n := n) (H := H) hb hi hs ht
 rwa [ofFrac_fl hb hi hr h] at this
theorem over_small {i : Int} (h : i.natAbs < 2 ^ 60) : i.natAbs < 2 ^ 1023 := Nat.lt_of_lt_of_le h (Nat.pow_le_pow_right (by decide) (by decide))
theorem Bin.addFI (hp : Fits p) (hi : Fits (i * 2 ^ 30)) (hr : Fits (p + i * 2 ^ 30)) (ht : C.tp := by trivial) : Bin C n .Add (.flt (fl p)) (.int i) H H (.flt (fl (p + i * 2 ^ 30))) := by
 intro A w Q E x y R B rx ry K
 obtain ⟨_, rfl, _⟩ := rx.inv; obtain ⟨_, rfl⟩ := ry.inv
 refine add_fi_fits (over_small (by omega)) ?_
 rw [fl_ofInt hi, fl_add hp hi hr]
 exact K ⟨w.ρ, w.π, _⟩ _ Ext.toks.step (B.ext Ext.toks) (.flt _ _ (tok_ne ht B))
theorem Bin.subFI (hp : Fits p) (hi : Fits (i * 2 ^ 30)) (hr : Fits (p - i * 2 ^ 30)) (ht : C.tp := by trivial) : Bin C n .Sub (.flt (fl p)) (.int i) H H (.flt (fl (p - i * 2 ^ 30))) := by
 intro A w Q E x y R B rx ry K
 obtain ⟨_, rfl, _⟩ := rx.inv; obtain ⟨_, rfl⟩ := ry.inv
 refine sub_fi_fits (over_small (by omega)) ?_
 rw [fl_ofInt hi, fl_sub hp hi hr]
 exact K ⟨w.ρ, w.π, _⟩ _ Ext.toks.step (B.ext Ext.toks) (.flt _ _ (tok_ne ht B))
theorem Bin.mulFI (hp : Fits p) (hi : Fits (i * 2 ^ 30)) (hr : Fits (p * i)) (p0 : 0 ≤ p) (i0 : 0 ≤ i) (ht : C.tp := by trivial) : Bin C n .Mult (.flt (fl p)) (.int i) H H (.flt (fl (p * i))) := by
 intro A w Q E x y R B rx ry K
 obtain ⟨_, rfl, _⟩ := rx.inv; obtain ⟨_, rfl⟩ := ry.inv
 refine mul_fi_fits (over_small (by lia)) ?_
 rw [fl_ofInt hi, fl_mul (r := p * i) hp hi hr p0 (Int.mul_nonneg i0 (by decide)) (Int.mul_assoc _ _ _).symm]
 exact K ⟨w.ρ, w.π, _⟩ _ Ext.toks.step (B.ext Ext.toks) (.flt _ _ (tok_ne ht B))
theorem cmp_lt (h1 : Fits p) (h2 : Fits q) : (Float64.cmp (fl p) (fl q) == some .lt) = decide (p < q) := by
 rw [fl_cmp h1 h2]
 rcases Int.lt_trichotomy p q with h | h | h
 ·rw [Int.compare_eq_lt.mpr h, decide_eq_true h]; rfl
 ·subst h; simp
 ·rw [Int.compare_eq_gt.mpr h, decide_eq_false (by lia)]; rfl
theorem cmp_gt (h1 : Fits p) (h2 : Fits q) : (Float64.cmp (fl p) (fl q) == some .gt) = decide (p > q) := by
 rw [fl_cmp h1 h2]
 rcases Int.lt_trichotomy p q with h | h | h
 ·rw [Int.compare_eq_lt.mpr h, decide_eq_false (by lia)]; rfl
 ·subst h; simp
 ·rw [Int.compare_eq_gt.mpr h, decide_eq_true h]; rfl
theorem cmp_eq (h1 : Fits p) (h2 : Fits q) : (Float64.cmp (fl p) (fl q) == some .eq) = decide (p = q) := by
 rw [fl_cmp h1 h2]
 rcases Int.lt_trichotomy p q with h | h | h
 ·rw [Int.compare_eq_lt.mpr h, decide_eq_false (by lia)]; rfl
 ·subst h; simp
 ·rw [Int.compare_eq_gt.mpr h, decide_eq_false (by lia)]; rfl
theorem Cmp.eqF (hp : Fits p) (hq : Fits q) : Cmp C n .Eq (.flt (fl p)) (.flt (fl q)) H (decide (p = q)) := by
 intro A w Q E x y R B rx ry K
 obtain ⟨_, rfl, _⟩ := rx.inv; obtain ⟨_, rfl, _⟩ := ry.inv
 exact AutoFloatOps.eq_0 (by rw [cmp_eq hp hq]; exact K w (Step.refl _ _) B)
theorem Cmp.leF (hp : Fits p) (hq : Fits q) : Cmp C n .LtE (.flt (fl p)) (.flt (fl q)) H (decide (p ≤ q)) := by
 intro A w Q E x y R B rx ry K
 obtain ⟨_, rfl, _⟩ := rx.inv; obtain ⟨_, rfl, _⟩ := ry.inv
 refine AutoFloatOps.le_0 ?_
 rw [cmp_lt hp hq, cmp_eq hp hq, show (decide (p < q) || decide (p = q)) = decide (p ≤ q) by rw [← Bool.decide_or]; apply decide_eq_decide.mpr; omega]
 exact K w (Step.refl _ _) B
theorem nan_fl (hp : Fits p) : Float64.isNaN (fl p) = false := by
 rw [Flt.isNaN_eq, fl_cmpInt hp]; rfl
theorem EqV.fl {d : Nat} (hp : Fits p) : EqV C H d (.flt (Mine.fl p)) (.flt (Mine.fl p)) true := EqV.flt _ (nan_fl hp) (by rw [fl_cmp hp hp]; simp)
theorem Fn.intFl (hp : Fits p) (p0 : 0 ≤ p) : Fn C n (.val (.type "int")) [.flt (fl p)] [] H H (.int (p / 2 ^ 30)) := by
 obtain ⟨m, e, h1, h2⟩ := fl_trunc hp p0
 have := Fn.intF (C := C) (n := n) (H := H) h1
 rwa [h2] at this
noncomputable def big3 (p q r : Int) : Int := max p (max q r)
noncomputable def low3 (p q r : Int) : Int := min p (min q r)
theorem Fn.max3F {p q r : Int} (hp : Fits p) (hq : Fits q) (hr : Fits r) : Fn C n (.val (.builtin "max")) [.flt (fl p), .flt (fl q), .flt (fl r)] [] H H (.flt (fl (big3 p q r))) := by
 have := Fn.max3 (C := C) (n := n) (H := H) (x := fl p) (y := fl q) (z := fl r)
 have g1 : ∀ {p q : Int}, Fits p → Fits q → gtF (fl p) (fl q) = decide (p > q) := fun a b => cmp_gt a b
 have e : fltAt [fl p, fl q, fl r] (argBest (fun i j => gtF (fltAt [fl p, fl q, fl r] i) (fltAt [fl p, fl q, fl r] j)) 2) = fl (big3 p q r) := by
  show fltAt [fl p, fl q, fl r] (if gtF (fltAt [fl p, fl q, fl r] 2) (fltAt [fl p, fl q, fl r] (if gtF (fl q) (fl p) then 1 else 0)) then 2 else (if gtF (fl q) (fl p) then 1 else 0)) = _
  rw [g1 hq hp]
  by_cases h : q > p
  ·rw [decide_eq_true h, if_pos rfl]
   show fltAt [fl p, fl q, fl r] (if gtF (fl r) (fl q) then 2 else 1) = _
   rw [g1 hr hq]
   by_cases h2 : r > q
   ·rw [decide_eq_true h2, if_pos rfl]; show fl r = _; congr 1; unfold big3; omega
   ·rw [decide_eq_false h2, if_neg (by decide)]; show fl q = _; congr 1; unfold big3; omega
  ·rw [decide_eq_false h]
   show fltAt [fl p, fl q, fl r] (if gtF (fl r) (fl p) then 2 else 0) = _
   rw [g1 hr hp]
   by_cases h2 : r > p
   ·rw [decide_eq_true h2, if_pos rfl]; show fl r = _; congr 1; unfold big3; omega
   ·rw [decide_eq_false h2, if_neg (by decide)]; show fl p = _; congr 1; unfold big3; omega
 rwa [e] at this
theorem Fn.min3F {p q r : Int} (hp : Fits p) (hq : Fits q) (hr : Fits r) : Fn C n (.val (.builtin "min")) [.flt (fl p), .flt (fl q), .flt (fl r)] [] H H (.flt (fl (low3 p q r))) := by
 have := Fn.min3 (C := C) (n := n) (H := H) (x := fl p) (y := fl q) (z := fl r)
 have g1 : ∀ {p q : Int}, Fits p → Fits q → ltF (fl p) (fl q) = decide (p < q) := fun a b => cmp_lt a b
 have e : fltAt [fl p, fl q, fl r] (argBest (fun i j => ltF (fltAt [fl p, fl q, fl r] i) (fltAt [fl p, fl q, fl r] j)) 2) = fl (low3 p q r) := by
  show fltAt [fl p, fl q, fl r] (if ltF (fltAt [fl p, fl q, fl r] 2) (fltAt [fl p, fl q, fl r] (if ltF (fl q) (fl p) then 1 else 0)) then 2 else (if ltF (fl q) (fl p) then 1 else 0)) = _
  rw [g1 hq hp]
  by_cases h : q < p
  ·rw [decide_eq_true h, if_pos rfl]
   show fltAt [fl p, fl q, fl r] (if ltF (fl r) (fl q) then 2 else 1) = _
   rw [g1 hr hq]
   by_cases h2 : r < q
   ·rw [decide_eq_true h2, if_pos rfl]; show fl r = _; congr 1; unfold low3; omega
   ·rw [decide_eq_false h2, if_neg (by decide)]; show fl q = _; congr 1; unfold low3; omega
  ·rw [decide_eq_false h]
   show fltAt [fl p, fl q, fl r] (if ltF (fl r) (fl p) then 2 else 0) = _
   rw [g1 hr hp]
   by_cases h2 : r < p
   ·rw [decide_eq_true h2, if_pos rfl]; show fl r = _; congr 1; unfold low3; omega
   ·rw [decide_eq_false h2, if_neg (by decide)]; show fl p = _; congr 1; unfold low3; lia
 rwa [e] at this
end
end
section
section
variable {C : Ct} {n : Nat} {env : Env} {σ σ' σ1 : Loc} {H H' H0 H1 H2 H3 : List HObj} {test : PySem.Expr} {body : List PySem.Stmt} {a b i : Int}
theorem Bin.addE {r : Int} (e : a + b = r) : Bin C n .Add (.int a) (.int b) H H (.int r) := e ▸ Bin.addInt
theorem Bin.subE {r : Int} (e : a - b = r) : Bin C n .Sub (.int a) (.int b) H H (.int r) := e ▸ Bin.sub
theorem Bin.fdivE {r : Int} (hb : b ≠ 0) (h : b.natAbs.log2 < 9000) (e : a.fdiv b = r) : Bin C n .FloorDiv (.int a) (.int b) H H (.int r) := e ▸ Bin.fdiv hb h
theorem Bin.fmodE {r : Int} (hb : b ≠ 0) (e : a.fmod b = r) : Bin C n .Mod (.int a) (.int b) H H (.int r) := e ▸ Bin.fmod hb
theorem Bin.mulE {r : Int} (h : IntMulOk a b) (e : a * b = r) : Bin C n .Mult (.int a) (.int b) H H (.int r) := e ▸ Bin.mul h
theorem Bin.half {x y m : Nat} (e : (x + y) / 2 = m) : Bin C n .FloorDiv (.int ((x : Int) + y)) (.int 2) H H (.int (m : Int)) := by
 refine Bin.fdivE (by decide) (by decide) ?_
 rw [Int.fdiv_eq_ediv_of_nonneg _ (by decide)]; lia
theorem Wh.bis (S : Nat → Nat → Loc) {r lo0 hi0 : Nat} (ht : ∀ a b, Tst C n env (S a b) H test H (decide ((a : Int) < b)))
  (hb : ∀ a b, a < b → lo0 ≤ a → b ≤ hi0 → a ≤ r → r ≤ b → ∃ σ1 a' b', Ex C n env (S a b) H body (.next σ1 H) ∧ (∀ x u, (S a' b').lookup x = some u → σ1.lookup x = some u) ∧ a ≤ a' ∧ b' ≤ b ∧ a' ≤ r ∧ r ≤ b' ∧ b' - a' < b - a) (k a b : Nat) (hk : b - a ≤ k) (h1 : lo0 ≤ a) (h2 : b ≤ hi0) (h3 : a ≤ r) (h4 : r ≤ b) :
  Wh C n env test body k (S a b) H (.next (S r r) H) := by
 have stop : ∀ k a b, a ≤ r → r ≤ b → ¬ a < b → Wh C n env test body k (S a b) H (.next (S r r) H) := fun k a b h3 h4 z => by
  have t := ht a b
  rw [decide_eq_false (fun q => z (Int.ofNat_lt.mp q))] at t
  obtain rfl : a = r := Nat.le_antisymm h3 (Nat.le_trans h4 (Nat.not_lt.mp z))
  obtain rfl : b = a := Nat.le_antisymm (Nat.not_lt.mp z) h4
  exact .stop t
 induction k generalizing a b with
 | zero => exact stop 0 a b h3 h4 (by omega)
 | succ k ih =>
  by_cases hab : a < b
  ·obtain ⟨σ1, a', b', hx, hs, q1, q2, q3, q4, q5⟩ := hb a b hab h1 h2 h3 h4
   have t := ht a b
   rw [decide_eq_true (Int.ofNat_lt.mpr hab)] at t
   exact .turn t hx (.weak hs (ih a' b' (by omega) (Nat.le_trans h1 q1) (Nat.le_trans q2 h2) q3 q4))
  ·exact stop _ a b h3 h4 hab
end
end
section
noncomputable def BMain (mg : Str → Option Value) (h : Heap) : Prop := ∃ bm ob, mg "__builtins__" = some (.ref bm) ∧ bm ≠ builtinsNs ∧ h.get? bm = some ob ∧ ob.cls = .type "module" ∧ ob.dict = some builtinsNs ∧ ob.data = .plain
structure C1 where
 w : World
 mg : Str → Option Value
 mb : Str → Option Value
 h₀ : Heap
 X : (hd02.heap_39 w.params).In h₀
 g : h₀.Ns mainGlobals mg
 b : h₀.Ns builtinsNs mb
 nb : NoneBooked h₀
 lim : h₀.NoLimit
 blt : ∀ x : Str, x ≠ "__name__" → mb x = bootBuiltins x
 bm : BMain mg h₀
noncomputable abbrev C1.ct (c : C1) : Ct := { prog := PySem.Challenge.pw_ta0122_02, w := c.w, K := hd02.heap_39 c.w.params, mg := c.mg, mb := c.mb, h₀ := c.h₀, X := c.X, g := c.g, b := c.b, nb := c.nb, lim := c.lim, blt := c.blt, tp := True }
theorem kind_of {env : Env} {S : Scope} {x : Str} {k : NameKind} (h : env.scope = S) (e : S.names.lookup x = some k) : env.kindOf x = some k := by
 show env.scope.names.lookup x = some k
 rw [h]; exact e
theorem fnOf {c : C1} {n : Nat} {H H' : List HObj} {v : V} {o : Out} {f : Addr} {fd : FuncData} {oc : Value} {od : Option Addr} {osl : Array (Option Value)} {body : List PySem.Stmt} {args : List V} {kw : List (Str × V)} {ns : List Str} {vs : List V}
  (ho : (hd02.heap_39 c.w.params).lookup f = some ⟨oc, od, .func fd, osl⟩) (hb : fd.body = .stmts body) (hst : fdOk fd = true) (hcd : codeIn (hd02.heap_39 c.w.params) fd.code fd.qualname = true) (hns : namesOk fd ns = true) (hnd : ns.Nodup)
  (hbind : Binds c.ct fd args kw ns vs) (hbody : ∀ env : Env, env.scope = fd.scope → Ex c.ct n env (ns.zip vs) H body o) (hfin : Fin o v H') : Fn c.ct (n + 1) (.val (.ref f)) args kw H H' v := Fn.ofDef ho hb hst hcd hns hnd hbind hbody hfin
theorem fnOfE {c : C1} {n : Nat} {H H' : List HObj} {v : V} {o : Out} {f : Addr} {fd : FuncData} {oc : Value} {od : Option Addr} {osl : Array (Option Value)} {body : List PySem.Stmt} {args : List V} {kw : List (Str × V)} {ns : List Str} {vs : List V}
  (ho : (hd02.heap_39 c.w.params).lookup f = some ⟨oc, od, .func fd, osl⟩) (hb : fd.body = .stmts body) (hst : fdOk fd = true) (hcd : codeIn (hd02.heap_39 c.w.params) fd.code fd.qualname = true) (hns : namesOk fd ns = true) (hnd : ns.Nodup)
  (hbind : Binds c.ct fd args kw ns vs) (hbody : ∀ env : Env, env.scope = fd.scope → env.code = fd.code → env.qual = fd.qualname ++ ".<locals>." → Ex c.ct n env (ns.zip vs) H body o) (hfin : Fin o v H') : Fn c.ct (n + 1) (.val (.ref f)) args kw H H' v :=
 (FnC.ofDefE ho hb hst hcd hns hnd (Binds.wide hbind) hbody hfin).fn
theorem il {env : Env} {S : Scope} {x : Str} (h : env.scope = S) (e : S.names.lookup x = some .local) : Sto env x := .inl (kind_of h e)
section
variable {C : Ct} {fd : FuncData} {ns : List Str} {u v w z k : V} {s : Str}
theorem bind1 (h : ∀ a, Looks C.M C.h₀ (bindArgs fd ⟨[a], []⟩) (ns.zip [a])) : Binds C fd [u] [] ns [u] := fun q_ xs ks rx rk => by
 obtain ⟨a, rfl, r⟩ := rx.inv1
 obtain rfl := rk.inv0
 exact ⟨[a], .cons r .nil, h a⟩
theorem bind2 (h : ∀ a b, Looks C.M C.h₀ (bindArgs fd ⟨[a, b], []⟩) (ns.zip [a, b])) : Binds C fd [u, v] [] ns [u, v] := fun q_ xs ks rx rk => by
 obtain ⟨a, b, rfl, _⟩ := rx.inv2
 obtain rfl := rk.inv0
 exact ⟨[a, b], rx, h a b⟩
theorem bind3 (h : ∀ a b c, Looks C.M C.h₀ (bindArgs fd ⟨[a, b, c], []⟩) (ns.zip [a, b, c])) : Binds C fd [u, v, w] [] ns [u, v, w] := fun q_ xs ks rx rk => by
 obtain ⟨a, b, c, rfl, _⟩ := rx.inv3
 obtain rfl := rk.inv0
 exact ⟨[a, b, c], rx, h a b c⟩
theorem bind4 (h : ∀ a b c d, Looks C.M C.h₀ (bindArgs fd ⟨[a, b, c, d], []⟩) (ns.zip [a, b, c, d])) : Binds C fd [u, v, w, z] [] ns [u, v, w, z] := fun q_ xs ks rx rk => by
 obtain ⟨a, b, c, d, rfl, _⟩ := rx.inv4
 obtain rfl := rk.inv0
 exact ⟨[a, b, c, d], rx, h a b c d⟩
theorem bind21 (h : ∀ a b e, Looks C.M C.h₀ (bindArgs fd ⟨[a, b], [(s, e)]⟩) (ns.zip [a, b, e])) : Binds C fd [u, v] [(s, k)] ns [u, v, k] := fun q_ xs ks rx rk => by
 obtain ⟨a, b, rfl, _⟩ := rx.inv2
 obtain ⟨e, rfl, _⟩ := VRels.inv1 rk
 exact ⟨[a, b, e], rx.append rk, h a b e⟩
theorem bind31 (h : ∀ a b c e, Looks C.M C.h₀ (bindArgs fd ⟨[a, b, c], [(s, e)]⟩) (ns.zip [a, b, c, .none, e])) : Binds C fd [u, v, w] [(s, k)] ns [u, v, w, .none, k] := fun q_ xs ks rx rk => by
 obtain ⟨a, b, c, rfl, _⟩ := rx.inv3
 obtain ⟨e, rfl, r⟩ := VRels.inv1 rk
 exact ⟨[a, b, c, .none, e], rx.append (.cons .none rk), h a b c e⟩
theorem bind41 (h : ∀ a b c d e, Looks C.M C.h₀ (bindArgs fd ⟨[a, b, c, d], [(s, e)]⟩) (ns.zip [a, b, c, d, e])) : Binds C fd [u, v, w, z] [(s, k)] ns [u, v, w, z, k] := fun q_ xs ks rx rk => by
 obtain ⟨a, b, c, d, rfl, _⟩ := rx.inv4
 obtain ⟨e, rfl, _⟩ := VRels.inv1 rk
 exact ⟨[a, b, c, d, e], rx.append rk, h a b c d e⟩
end
theorem Fn.le {C : Ct} {m n : Nat} {f : V} {args : List V} {kw : List (Str × V)} {H H' : List HObj} {v : V} (h : Fn C m f args kw H H' v) (q : m ≤ n) : Fn C n f args kw H H' v :=
 fun A w Q E g xs ks R B rg rx rk K => h A w Q E g xs ks (R.le q) B rg rx rk K
theorem Fn.eq {C : Ct} {n : Nat} {f : V} {args : List V} {kw : List (Str × V)} {H H' : List HObj} {v v' : V} (h : Fn C n f args kw H H' v') (q : v' = v) : Fn C n f args kw H H' v := q ▸ h
section
variable {c : C1} {C : Ct} {n : Nat} {env : Env} {σ : Loc} {H H1 H2 H3 : List HObj} {x : Str} {pos : Pos} {y : Value} {v : V} {e1 e2 e3 : PySem.Expr} {b : Bool} {o : Out} {body orelse : List PySem.Stmt}
theorem gV (h : nsIn (hd02.heap_39 c.w.params) mainGlobals x = some (some y)) (hx : env.kindOf x = some .globalImplicit) (hd : (x == ("__debug__" : Str)) = false := by decide) : Ev c.ct n env σ H (.Name x pos) H (.val y) := Ev.globV h hx hd
theorem gB (h : nsIn (hd02.heap_39 c.w.params) mainGlobals x = some none) (hx : env.kindOf x = some .globalImplicit) (hb : bootBuiltins x = some y := by boot_by_name) (hn : x ≠ "__name__" := by decide) (hd : (x == ("__debug__" : Str)) = false := by decide) : Ev c.ct n env σ H (.Name x pos) H (.val y) := Ev.blt h hb hn hx hd
end
end
set_option hygiene false in
local macro_rules | `(tactic| walk_at "t_of") => `(tactic| ((case ho => k_is); (case hb => exact rfl); (case hst => kernel_rfl); (case hcd => k_is); (case hns => kernel_rfl); (case hnd => decide)))
section
inductive ClsIs (D N : Addr) (r : Option Obj) : Prop
 | mk (nm q : Str) (bs : List Value) (sn : List Str) (sub : List Value) (ab : Bool) (col : Option Bool) (dd : Option Addr) (k0 k1 k2 k3 k5 : Option Value) (newId : String) : r = some (excClassObj nm q D N bs [.type "object"] true sn sub ab col dd k0 k1 k2 k3 k5 newId) → ClsIs D N r
structure Cls (C : Ct) (D N : Addr) (es : Array DictEntry) : Prop where
 obj : ClsIs D N (C.K.lookup D)
 ns : ∃ n, C.K.lookup N = some ⟨.type "dict", none, .dict es n, #[]⟩
 keys : StrKeys es
noncomputable def strKeysB (es : Array DictEntry) : Bool := es.toList.all fun e => match e.key with | .str _ _ => true | _ => false
theorem strKeys_of {es : Array DictEntry} (h : strKeysB es = true) : StrKeys es := by
 intro e he
 have := List.all_eq_true.mp h e (by simpa using he)
 cases q : e.key with
 | str n t => exact ⟨n, t, rfl⟩
 | _ => rw [q] at this; cases this
theorem cls_of {C : Ct} {D N : Addr} {es : Array DictEntry} {nm q : Str} {bs : List Value} {sn : List Str} {sub : List Value} {ab : Bool} {col : Option Bool} {dd : Option Addr} {k0 k1 k2 k3 k5 : Option Value} {newId : String} {n : Nat}
  (h1 : C.K.lookup D = some (excClassObj nm q D N bs [.type "object"] true sn sub ab col dd k0 k1 k2 k3 k5 newId)) (h2 : C.K.lookup N = some ⟨.type "dict", none, .dict es n, #[]⟩) (h3 : strKeysB es = true) : Cls C D N es :=
 ⟨⟨_, _, _, _, _, _, _, _, _, _, _, _, _, _, h1⟩, ⟨_, h2⟩, strKeys_of h3⟩
noncomputable def instA (D : Addr) (j : Nat) : Asrt where
 P w v := ∃ a d, v = .ref a ∧ a ∉ w.ρ ∧ w.h.get? a = some (instObj D d) ∧ w.ρ[j]? = some d
 mono {X w w' v} hX S h := by
  obtain ⟨a, d, rfl, n, e, r⟩ := h
  refine ⟨a, d, rfl, S.notin e n, S.keep _ _ e n (hX.hard e ?_), S.at r⟩
  rintro (⟨v, h⟩ | ⟨es, n, h⟩ | ⟨vs, T, h, _⟩) <;> cases h
 top := j + 1
 low {w w' v} L h := by
  obtain ⟨a, d, rfl, n, e, r⟩ := h
  exact ⟨a, d, rfl, fun m => n (L.sub _ m), by rw [show w'.h = w.h from congrArg Shared.heap L.s]; exact e, (L.at_ j (Nat.lt_succ_self _)).trans r⟩
inductive OwnO (m : Str → Option Value) (o : Obj) : Prop
 | mk (es : Array DictEntry) (n : Nat) : o.cls = .type "dict" → o.dict = none → o.data = .dict es n → StrKeys es → UniqKeys es → (∀ y, nsFind es y = m y) → OwnO m o
noncomputable def ownA (x : Str) (i : Nat) : OAsrt where
 P w o := ∃ l, w.ρ[i]? = some l ∧ OwnO (fun y => if y = x then some (.ref l) else none) o
 mono {X w w' o} hX S h := let ⟨l, e, r⟩ := h; ⟨l, S.at e, r⟩
 hard {w o vs T} h hd := let ⟨_, _, ⟨_, _, _, _, e, _, _, _⟩⟩ := h; nomatch e.symm.trans hd
 top := i + 1
 low {w w' o} L h := let ⟨l, e, r⟩ := h; ⟨l, (L.at_ i (Nat.lt_succ_self _)).trans e, r⟩
 loose h := let ⟨l, e, ⟨es, n, a, b, c, d, f, g⟩⟩ := h; ⟨l, e, ⟨es, n, a, b, c, d, f, g⟩⟩
noncomputable def bareA : OAsrt where
 P _ o := o = emptyDict
 mono _ _ h := h
 hard {w o vs T} h hd := by
  cases h
  cases hd
 top := 0
 low _ h := h
 loose h := h
section
variable {C : Ct} {n : Nat} {env : Env} {σ σ' σ1 : Loc} {H H' H0 H1 H2 H3 : List HObj} {pos p0 pos' apos p : Pos} {k : Nat} {x y name id : Str} {v v1 v2 v3 : V} {e e1 e2 e3 : PySem.Expr} {D N f fI : Addr} {es : Array DictEntry} {i j : Nat}
theorem Cls.there (cl : Cls C D N es) {w : Wd} (B : BSt C w H) : ClsIs D N (w.h.get? D) ∧ w.h.Ns N (nsFind es) := by
 refine ⟨?_, ?_⟩
 ·obtain ⟨nm, q, bs, sn, sub, ab, col, dd, k0, k1, k2, k3, k5, newId, h⟩ := cl.obj
  exact ⟨nm, q, bs, sn, sub, ab, col, dd, k0, k1, k2, k3, k5, newId, B.X _ _ h⟩
 ·obtain ⟨m, hm⟩ := cl.ns
  exact ⟨_, es, m, B.X _ _ hm, rfl, cl.keys, fun q_ => rfl⟩
theorem fk_of {h : Heap} {q d : Addr} {o : Obj} {m : Str → Option Value} (hq : h.get? q = some (instObj D d)) (nq : d ≠ q) (hd : h.get? d = some o) (O : OwnO m o) : h.InstFk q D m := by
 obtain ⟨es, n, a, b, c, e, f, g⟩ := O
 exact ⟨_, hq, rfl, (fun c z => by cases z), .inr ⟨d, rfl, nq, ⟨o, es, n, hd, c, e, f, g⟩, ⟨o, hd, a, b⟩⟩⟩
theorem fk_own {h : Heap} {q d : Addr} {m : Str → Option Value} (I : h.InstFk q D m) (hq : h.get? q = some (instObj D d)) : ∃ o, h.get? d = some o ∧ OwnO m o := by
 obtain ⟨o, g1, _, _, g4⟩ := I
 obtain rfl := Option.some.inj (hq.symm.trans g1)
 rcases g4 with ⟨z, _⟩ | ⟨d2, g5, _, ⟨o3, es3, m3, g7, g8, g9, g10, g11⟩, ⟨o4, g12, g13, g14⟩⟩
 ·cases z
 ·cases g5
  obtain rfl := Option.some.inj (g7.symm.trans g12)
  exact ⟨o3, g7, ⟨es3, m3, g13, g14, g8, g9, g10, g11⟩⟩
theorem BSt.sem {w : Wd} {P : OAsrt} (B : BSt C w H) (e : H[j]? = some (.sem P)) : ∃ a o, w.ρ[j]? = some a ∧ w.h.get? a = some o ∧ P.P w o := by
 have hl : j < w.ρ.length := by rw [B.len]; exact (List.getElem?_eq_some_iff.mp e).1
 have ha : w.ρ[j]? = some w.ρ[j] := List.getElem?_eq_getElem hl
 cases B.obj j _ _ ha e with
 | sem e' p => exact ⟨_, _, ha, e', p⟩
theorem inst_own {w : Wd} {a : Value} (B : BSt C w H) (r : VRel w (.sem (instA D j)) a) (hj : H[j]? = some (.sem (ownA x i))) : ∃ q l, a = .ref q ∧ w.ρ[i]? = some l ∧ w.h.InstFk q D fun y => if y = x then some (.ref l) else none := by
 have h := r.inv
 obtain ⟨q, d, rfl, nq, hq, hd⟩ := h
 obtain ⟨d', o, hd', ho, l, hl, O⟩ := B.sem hj
 obtain rfl := Option.some.inj (hd.symm.trans hd')
 exact ⟨q, l, rfl, hl, fk_of hq (fun z => nq (z ▸ List.mem_of_getElem? hd)) ho O⟩
theorem Ev.attr (cl : Cls C D N es) (h : Ev C n env σ H (.Name id p) H1 (.sem (instA D j))) (hj : H1[j]? = some (.sem (ownA x i))) (hga : nsFind es "__getattribute__" = Option.none) (hna : nsFind es x = Option.none) (hB : typeLookup (.type "object") x = pure Option.none) :
  Ev C n env σ H (.Attribute (.Name id p) x pos) H1 (.ref i) := by
 intro A w Q E R B F K
 refine Attribute_name (h A w _ E R B F fun w1 a S1 B1 F1 r1 => ?_)
 obtain ⟨q, l, rfl, hl, I⟩ := inst_own B1 r1 hj
 obtain ⟨nm, q', bs, sn, sub, ab, col, dd, k0, k1, k2, k3, k5, newId, hD⟩ := (cl.there B1).1
 have hN := (cl.there B1).2
 obtain ⟨ρ, π, hh, g, d, t, os⟩ := w1
 refine load_attrFk hD hN hga hna hB I (by rw [if_pos rfl]) rfl ?_
 have X : Ext ⟨ρ, π, hh, g, d, t, os⟩ ⟨ρ, π, hh, g, d, t + 1, os⟩ := Ext.toks
 exact K ⟨ρ, π, _⟩ _ (S1.trans X.step) (B1.ext X) (F1.ext X) (.ref hl)
theorem Ev.inst {esx : List PySem.Expr} {ks : List Keyword} {vs : List V} {kv : List (Str × V)} {fo : Obj} {r : Option Value} {pl : Sem Bool} (cl : Cls C D N es) (h : Ev C n env σ H (.Name id p) H1 (.sem (instA D j))) (hj : H1[j]? = some (.sem (ownA x i))) (hx : ¬ name = x)
  (hga : nsFind es "__getattribute__" = Option.none) (hnh : nsFind es "__getattr__" = Option.none) (hf : nsFind es name = some (.ref f)) (hfo : C.K.lookup f = some fo) (hfc : fo.cls = .type "function") (hB : typeLookup (.type "object") name = pure r)
  (ha : EvA C n env σ H1 pos esx ks H2 vs kv) (hc : Fn C n (.val (.ref f)) (.sem (instA D j) :: vs) kv H2 H3 v) (hk : keepIn C.K (.ref f) = true)
  (hp : ((backTo pos (starEach esx env)).any (·.1) || (backToKw pos (keywordEach ks env)).any (·.1.isNone)) = false)
  (he : eval (.Call (.Attribute (.Name id p) name apos) esx ks pos) env = (do
   let ov ← eval (.Name id p) env
   standAt apos.atName
   let (f, first) ← holding [ov] (getMethod ov name pl)
   callWith pos f first (backTo pos (starEach esx env)) (backToKw pos (keywordEach ks env)))) :
  Ev C n env σ H (.Call (.Attribute (.Name id p) name apos) esx ks pos) H3 v := by
 intro A w Q E R B F K
 refine methodCall_KW (pl := pl) (h A w _ E R B F fun w1 a S1 B1 F1 r1 => ?_) he
 obtain ⟨q, l, rfl, hl, I⟩ := inst_own B1 r1 hj
 obtain ⟨nm, q', bs, sn, sub, ab, col, dd, k0, k1, k2, k3, k5, newId, hD⟩ := (cl.there B1).1
 have hN := (cl.there B1).2
 have hfo' := B1.X _ _ hfo
 have goal : wpAny C.M A (callWith pos (.ref f) [.ref q] (backTo pos (starEach esx env)) (backToKw pos (keywordEach ks env))) Q E w1.s := by
  refine callWith_of (P := fun h => C.K.In h) hp (keeps_K hk) (ha A w1 (.ref f) _ E R B1 F1 fun w2 ys zs S2 B2 F2 r2 r3 => ⟨B2.X, ?_⟩)
  exact hc A w2 Q E (.ref f) (.ref q :: ys) zs R B2 (.val _) (.cons (r1.step0 S2) r2) r3 fun w3 y S3 B3 r => K w3 y (S1.trans (S2.trans S3)) B3 (F2.step0 S3) r
 obtain ⟨ρ, π, hh, g, d, t, os⟩ := w1
 exact method_ofFk hD hN hga hnh hf hfo' hfc hB I (if_neg hx) goal
theorem Room.call {A : Around} {m : Nat} {xs : List Value} {ks : List (Str × Value)} (R : Room A (m + 1)) : Room (A.under (.builtin "type.__call__" ⟨.ref D :: xs, ks⟩)) m := by
 have hf : (Code.builtin "type.__call__" ⟨.ref D :: xs, ks⟩).frames = 0 := by
  rfl
 have e1 : (Code.builtin "type.__call__" ⟨.ref D :: xs, ks⟩).weight = 1 := by
  have hg : (Code.builtin "type.__call__" ⟨.ref D :: xs, ks⟩).isGuard = false := by
   show guardIds.contains "type.__call__" = false
   decide +kernel
  have hc : (Code.builtin "type.__call__" ⟨.ref D :: xs, ks⟩).isCreation = true := rfl
  have hk : (Code.builtin "type.__call__" ⟨.ref D :: xs, ks⟩).isCaller = false := by
   rfl
  simp [Code.weight, hf, hc, hg, hk]
 have e2 : (Code.builtin "type.__call__" ⟨.ref D :: xs, ks⟩).cUnits = 1 := by simp [Code.cUnits, hf]
 refine ⟨R.hd, ?_, ?_⟩
 ·have := R.depth; show A.depth + (Code.builtin "type.__call__" ⟨.ref D :: xs, ks⟩).weight + m ≤ 900
  lia
 ·have := R.units; show A.units + (Code.builtin "type.__call__" ⟨.ref D :: xs, ks⟩).cUnits + 20 * m ≤ 9000
  lia
theorem Fn.make {args : List V} {kw : List (Str × V)} (hm : makesIn C.K D = true) (hi : findIn C.K (.ref D) "__init__" = some (some (.ref fI))) (hf : typeIn C.K (.ref fI) = some (.type "function"))
  (hinit : FnC C n (.val (.ref fI)) (.sem (instA D H.length) :: args) kw (H ++ [.sem bareA]) H' .none) : Fn C (n + 1) (.val (.ref D)) args kw H H' (.sem (instA D H.length)) := by
 intro A w Q E g xs ks R B rg rx rk K
 obtain ⟨_, rfl⟩ := rg.inv
 obtain ⟨ρ, π, hh, g, d, t, os⟩ := w
 refine wpAny_call (make_core (makes_of B.X hm) (looks_findIn B.X hi) (fun self => bind_fn B.X self hf) (.inl rfl) ?_)
 have hk : ∀ b ob, hh.get? b = some ob → ((hh.push emptyDict).push (instObj D hh.objs.size)).get? b = some ob := fun b ob e => Heap.get?_push_of_some _ (Heap.get?_push_of_some _ e)
 have hd : ((hh.push emptyDict).push (instObj D hh.objs.size)).get? hh.objs.size = some emptyDict := Heap.get?_push_of_some _ (Heap.get?_push_size _ rfl)
 have hx : ((hh.push emptyDict).push (instObj D hh.objs.size)).get? (hh.objs.size + 1) = some (instObj D hh.objs.size) := by heap_get
 have hn : hh.get? hh.objs.size = none := size_none _
 obtain ⟨B1, S1⟩ := B.track (s' := ⟨(hh.push emptyDict).push (instObj D hh.objs.size), g, d, t, os⟩) (a := hh.objs.size) (o := .sem bareA) hk rfl rfl (Nat.le_refl _) hn B.size3 (fun q_ => .sem hd rfl) (fun P e => by cases e; exact Nat.zero_le _)
 have hnx : hh.objs.size + 1 ∉ ρ ++ [hh.objs.size] := fun z => by
  rcases List.mem_append.mp z with z | z
  ·refine B.fresh (a := hh.objs.size + 1) ?_ z
   cases q : hh.get? (hh.objs.size + 1) with
   | none => rfl
   | some o => exact absurd (Heap.lt_size q) (Nat.not_lt.mpr (Nat.le_succ _))
  ·have := List.mem_singleton.mp z; lia
 have r1 : VRel ⟨ρ ++ [hh.objs.size], π, ⟨(hh.push emptyDict).push (instObj D hh.objs.size), g, d, t, os⟩⟩ (.sem (instA D H.length)) (.ref (hh.objs.size + 1)) :=
  .sem ⟨_, _, rfl, hnx, hx, by rw [← B.len]; simp⟩
 refine hinit _ _ (InitBack (hh.objs.size + 1) _) (.ref fI) (.ref (hh.objs.size + 1) :: xs) ks R.call B1 (.val _) (.cons r1 (rx.step0 S1)) (rk.step0 S1) fun w2 y S2 B2 r2 => ?_
 obtain ⟨_, rfl⟩ := r2.inv
 exact ⟨rfl, K w2 _ (S1.trans S2) B2 (r1.step0 S2)⟩
theorem Es.attr (cl : Cls C D N es) (hv : Ev C n env σ H e H1 (.ref i)) (h : Ev C n env σ H1 (.Name id p) H2 (.sem (instA D j))) (hj : H2[j]? = some (.sem bareA)) (hsa : nsFind es "__setattr__" = Option.none) (hna : nsFind es x = Option.none) (hB : typeLookup (.type "object") x = pure Option.none)
  (hs : swapsWith e (some (.Attribute (.Name id p) x pos')) pos.line env = pure false) : Es C n env σ H (.Assign [.Attribute (.Name id p) x pos'] e pos) (.next σ (H2.set j (.sem (ownA x i)))) := by
 intro A w Q E R B F K
 refine plainObj_wpAny_Assign_Attribute (hv A w _ E R B F fun w1 l S1 B1 F1 r1 => h A w1 _ E R B1 F1 fun w2 a S2 B2 F2 r2 => ?_) hs
 have rl := r1.step0 S2
 obtain ⟨_, rfl, hl⟩ := rl.inv
 have r2 := r2.inv
 obtain ⟨q, d, rfl, nq, hq, hd⟩ := r2
 have ho : w2.h.get? d = some emptyDict := by
  obtain ⟨d', o, hd', ho, rfl⟩ := B2.sem hj
  obtain rfl := Option.some.inj (hd.symm.trans hd')
  exact ho
 have I := fk_of (m := fun q_ => Option.none) hq (fun z => nq (z ▸ List.mem_of_getElem? hd)) ho ⟨#[], 0, rfl, rfl, rfl, (fun e he => by simp at he), (by unfold UniqKeys; simp), fun q_ => rfl⟩
 obtain ⟨nm, q', bs, sn, sub, ab, col, dd, k0, k1, k2, k3, k5, newId, hD⟩ := (cl.there B2).1
 have qD : q ≠ D := fun z => by
  rw [z] at hq; rw [hq] at hD
  exact nomatch congrArg Obj.data (Option.some.inj hD)
 refine wpAny_with_toks (n := w2.s.toks) (Nat.le_refl _) ?_
 have hN := (cl.there B2).2
 obtain ⟨ρ, π, hh, g, dr, t, os⟩ := w2
 refine store_attrFk (ns := []) PySem.F.store_object hD hN hsa hna hB qD I (fun h' tk' I' hk hsame htk => ?_) (fun y h => absurd rfl h) (by decide)
 have h1 : h'.get? q = some (instObj D d) := by
  obtain ⟨⟨oc, od, oda, osl⟩, h1, h2, h3, h4, h5⟩ := hsame _ hq
  have hz := h5 d rfl
  simp only at h2 h3 h4 hz
  subst h2; subst h3; subst h4; subst hz; exact h1
 have base : ∀ b ob, b ≠ d → hh.get? b = some ob → h'.get? b = some ob := fun b ob nb e => by
  by_cases hb : b = q
  ·subst hb; obtain rfl := Option.some.inj (hq.symm.trans e); exact h1
  ·exact hk b ob hb (fun o₀ dx e0 e1 z => by obtain rfl := Option.some.inj (hq.symm.trans e0); cases e1; exact nb z) e
 obtain ⟨o3, g7, O⟩ := fk_own I' h1
 obtain ⟨B3, S3⟩ := B2.setK (s' := ⟨h', g, dr, tk', os⟩) (a := d) (o := .sem (ownA x i)) hd base rfl rfl htk ⟨_, g7⟩ (fun S => .sem g7 ⟨_, hl, by obtain ⟨es, n, a, b, c, d, f, g⟩ := O; exact ⟨es, n, a, b, c, d, f, fun y => by rw [g]⟩⟩)
  (fun P e => by cases e; rw [← B2.len]; exact (List.getElem?_eq_some_iff.mp hl).1)
 exact K ⟨ρ, π, _⟩ _ (F.wide (S1.trans (S2.trans S3))) (.next B3 (F2.step0 S3))
end
end
section
open PySem.Builtin.Re
noncomputable def codeN : Array Nat := #[14, 10, 4, 1, 1, 22, 0, 31, 16, 127, 0, 13, 7, 22, 0, 31, 16, 127, 0, 1]
noncomputable def codeV : Array Nat := #[14, 14, 4, 1, 1, 9, 4294966783, 0, 0, 2147483648, 0, 0, 0, 0, 0, 13, 11, 9, 4294966783, 0, 0, 2147483648, 0, 0, 0, 0, 0, 1]
noncomputable def plain (c : Nat) : Prop := 32 ≤ c ∧ c < 127
noncomputable def Miss (code : Array Nat) (c : Nat) : Prop := ∀ seen, ∃ seen', Sre.inSet code c code.size 5 true seen = .ok (false, seen')
theorem missN {c : Nat} (h : plain c) : Miss codeN c := by
 intro seen
 have h1 : (decide (0 ≤ c) && decide (c ≤ 31)) = false := by rw [Bool.and_eq_false_iff]; right; exact decide_eq_false (by have := h.1; exact Nat.not_le.mpr (by assumption))
 have h2 : (c == 127) = false := by rw [beq_eq_false_iff_ne]; have := h.2; exact Nat.ne_of_lt (by assumption)
 show ∃ seen', Sre.inSet codeN c 20 5 true seen = _
 show ∃ seen', (if (decide (0 ≤ c) && decide (c ≤ 31)) = true then _ else Sre.inSet codeN c 19 8 true _) = _
 rw [h1, if_neg Bool.false_ne_true]
 show ∃ seen', (if (c == 127) = true then _ else Sre.inSet codeN c 18 10 true _) = _
 rw [h2, if_neg Bool.false_ne_true]
 exact ⟨_, rfl⟩
theorem bitsV : ∀ c : _root_.Fin 127, 32 ≤ c.val → (codeV.getD (5 + (1 + c.val / 32)) 0).testBit (c.val % 32) = false := by decide +kernel
theorem missV {c : Nat} (h : plain c) : Miss codeV c := by
 intro seen
 have h1 : (decide (c < 256) && (codeV.getD (5 + (1 + c / 32)) 0).testBit (c % 32)) = false := by rw [bitsV ⟨c, h.2⟩ h.1, Bool.and_false]
 show ∃ seen', Sre.inSet codeV c 28 5 true seen = _
 show ∃ seen', (if (decide (c < 256) && (codeV.getD (5 + (1 + c / 32)) 0).testBit (c % 32)) = true then _ else Sre.inSet codeV c 27 14 true _) = _
 rw [h1, if_neg Bool.false_ne_true]
 exact ⟨_, rfl⟩
theorem admitted_none {m : Sre.M} (h : ∀ s, s < m.lim → Miss m.code (m.text.getD s 0)) : ∀ fuel s seen, ∃ seen', Sre.M.admitted m fuel s seen = .ok (none, seen')
 | 0, _, seen => ⟨seen, rfl⟩
 | fuel + 1, s, seen => by
  unfold Sre.M.admitted
  by_cases q : s ≥ m.lim
  ·rw [if_pos q]; exact ⟨seen, rfl⟩
  ·rw [if_neg q]
   obtain ⟨seen', e⟩ := h s (by exact Nat.lt_of_not_le (by assumption)) seen
   rw [e]
   exact admitted_none h fuel (s + 1) seen'
theorem attempt_none {m : Sre.M} (hf : m.hasFirstSet = true) (h : ∀ s, s < m.lim → Miss m.code (m.text.getD s 0)) (s : Nat) (first : Bool) : ∃ seen', m.attemptFrom s first = { m with seen := seen' }.say false := by
 unfold Sre.M.attemptFrom
 rw [hf]
 obtain ⟨seen', e⟩ := admitted_none h (m.lim + 1 - s) s m.seen
 simp only [Bool.not_true, Bool.false_eq_true, if_false]
 rw [e]
 exact ⟨seen', rfl⟩
theorem run_say {m : Sre.M} (ho : m.outcome = none) (hf : m.frames = []) : (m.say false).runFor 4 = { m.say false with outcome := some .failed } := by
 obtain ⟨_, _, _, _, _, _, _, _, _, _, _, _, _, _, _, _, _, _, _, _, _⟩ := m
 simp only at ho hf
 subst ho; subst hf
 rfl
theorem wpAny_rules {M : Model} {A : Around} {Q : PUnit → Shared → Prop} {E : Value → Shared → Prop} {s : Shared} {c : Nat → Bool} {t : Nat → String} : ∀ (l : List Nat), Q ⟨⟩ s →
  wpAny M A (forIn l PUnit.unit fun i q_ => (if c i = true then (rule (t i) >>= fun q_ => pure (ForInStep.yield PUnit.unit)) else pure (ForInStep.yield PUnit.unit) : Sem (ForInStep PUnit))) Q E s
 | [], h => wpAny_pure h
 | i :: l, h => by
  rw [List.forIn_cons]
  refine wpAny_bind ?_
  split
  ·exact wpAny_bind (wpAny_rule (wpAny_pure (wpAny_rules l h)))
  ·exact wpAny_pure (wpAny_rules l h)
theorem plainAttrs_pat : PlainAttrs "re.Pattern" :=
 ⟨⟨"object.__getattribute__", by rw [typeLookup_type, builtinLookup_eq_fast]; kernel_rfl, by decide +kernel⟩, by rw [typeLookup_type, builtinLookup_eq_fast]; kernel_rfl⟩
theorem slot_search : PySem.Slot "re.Pattern" "search" "re.Pattern.search" :=
 .of (owner := "re.Pattern") (n := "search") (by rw [typeLookup_type, builtinLookup_eq_fast]; kernel_rfl) (by decide +kernel) (by decide +kernel) (by decide +kernel)
  (.inr (by decide +kernel)) (by rw [isSubtype_type]; kernel_rfl)
theorem type_search : typeOf (.builtin "re.Pattern.search") = pure (.type "method_descriptor") := by show builtinType _ = _; rw [builtinType_eq_fast]; kernel_rfl
theorem entry_search : entryFor table "re.Pattern.search" = some Builtin.«re.Pattern.search» := entryFor_of_tree (by kernel_rfl)
theorem args_search (a b : Value) : argsOk "re.Pattern.search" ⟨[a, b], []⟩ := by unfold argsOk; kernel_rfl
theorem attempt_failed {m : Sre.M} {s : Nat} {first : Bool} (hf : m.hasFirstSet = true) (ho : m.outcome = none) (hr : m.frames = []) (h : ∀ s, s < m.lim → Miss m.code (m.text.getD s 0)) :
  ∃ m', (m.attemptFrom s first).runFor 4 = m' ∧ m'.outcome = some .failed := by
 obtain ⟨seen', e⟩ := attempt_none hf h s first
 rw [e]
 exact ⟨_, run_say ho hr, rfl⟩
theorem search_failed {code text : Array Nat} {groups pos lim : Nat} (hq : ((match Sre.ops[code.getD 0 0]? with | some .INFO => true | _ => false) && code.getD 2 0 == 4) = true) (hm : ∀ s, s < lim → Miss code (text.getD s 0)) :
  ∃ m', (Sre.forSearch code text groups pos lim false).runFor 4 = m' ∧ m'.outcome = some .failed := by
 unfold Sre.forSearch
 dsimp only
 split
 ·exact ⟨_, run_say rfl rfl, rfl⟩
 ·exact attempt_failed hq rfl rfl hm
structure Pat (C : Ct) (p ct : Addr) (code : Array Nat) : Prop where
 body : ∃ vs m, C.K.lookup ct = some ⟨.type "tuple", none, .seq vs m, #[]⟩ ∧ (vs.map reRawOf).map (·.toNat) = code
 obj : ∃ a b t d e t', C.K.lookup p = some ⟨.type "re.Pattern", none, .fields #[a, b, .int 0 t, d, e, .ref ct, .int 0 t'], #[]⟩
 quick : ((match Sre.ops[code.getD 0 0]? with | some .INFO => true | _ => false) && code.getD 2 0 == 4) = true
theorem Fn.search0 {C : Ct} {n : Nat} {H : List HObj} {p ct : Addr} {code : Array Nat} {x : Str} (P : Pat C p ct code) (hx : ∀ c ∈ x.cps, Miss code c) (hl : x.length < 2 ^ 60) : Fn C n (.val (.builtin "re.Pattern.search")) [.val (.ref p), .str x] [] H H .none := by
 intro A w Q E g xs ks R B rg rx rk K
 obtain ⟨_, rfl⟩ := rg.inv
 obtain ⟨y, z, rfl, r1, r2⟩ := rx.inv2
 cases rk.inv0
 obtain ⟨_, rfl⟩ := r1.inv
 obtain ⟨t0, rfl⟩ := r2.inv
 obtain ⟨a, b, t, d, e, t', ho⟩ := P.obj
 obtain ⟨vs, m, hc, hv⟩ := P.body
 have ho' := B.X _ _ ho
 have hc' := B.X _ _ hc
 have done : Q .none w.s := K w _ (Step.refl _ _) B .none
 have hs : ∀ s, s < min (2 ^ 63 - 1 : Int).toNat x.cps.size → Miss code (x.cps.getD s 0) := fun s hs => by
  have hs' : s < x.cps.size := Nat.lt_of_lt_of_le hs (Nat.min_le_right _ _)
  rw [Array.getD_eq_getD_getElem?, Array.getElem?_eq_getElem hs']
  exact hx _ (Array.getElem_mem hs')
 obtain ⟨m', h1, h2⟩ := search_failed (code := code) (text := x.cps) (groups := 0) (pos := min (Int.toNat 0) x.cps.size) (lim := min (2 ^ 63 - 1 : Int).toNat x.cps.size) P.quick hs
 rw [← hv] at h1
 obtain ⟨ρ, π, hh, g, dr, tk, os⟩ := w
 change hh.get? p = _ at ho'
 change hh.get? ct = _ at hc'
 refine wpAny_call_entry slot_search ⟨_, ho', rfl⟩ entry_search ?_ (args_search _ _)
 unfold Builtin.«re.Pattern.search»
 refine wpAny_bind ?_
 unfold reTarget
 have e1 : reNamed "re.Pattern.search" "search" ["string", "pos", "endpos"] 1 [Value.str x t0] [] = pure [some (Value.str x t0), none, none] := by kernel_rfl
 dsimp only
 rw [e1]
 repeat lk
 have key : Sre.M.runFor reTurnSteps
        (Sre.forSearch (Array.map (fun x => x.toNat) (Array.map reRawOf ((some vs).getD #[]))) x.cps
         (reRawNat (#[a, b, Value.int 0 t, d, e, Value.ref ct, Value.int 0 t'].getD 2 Value.none))
         (min (Int.toNat 0) x.cps.size) (min (2 ^ 63 - 1 : Int).toNat x.cps.size) false) = m' := h1
 rw [key, h2]
 refine wpAny_pure (wpAny_bind (wpAny_rules _ ?_))
 rw [h2]
 exact wpAny_pure (wpAny_pure ⟨_, rfl, done⟩)
end
section
section
variable {C : Ct} {n : Nat} {env : Env} {σ σ' σ1 : Loc} {H H' H0 H1 H2 H3 : List HObj} {pos p0 pos' apos p : Pos} {k : Nat} {x y name id : Str} {v v1 v2 v3 : V} {e e1 e2 e3 : PySem.Expr} {i j : Nat}
theorem Fn.typeOf {T : String} (ht : Typ C H v T) (hnb : (Value.type T == Value.type "builtin_function_or_method") = false) : Fn C n (.val (.type "type")) [v] [] H H (.val (.type T)) := by
 intro A w Q E g xs ks R B rg rx rk K
 obtain ⟨_, rfl⟩ := rg.inv
 obtain ⟨z, rfl, r1⟩ := rx.inv1
 cases rk.inv0
 exact call_type_of (ht w z B r1).1 hnb (K w _ (Step.refl _ _) B (.val _))
theorem Cmp.isT {X Y : String} : Cmp C n .Is (.val (.type X)) (.val (.type Y)) H (Value.type X == Value.type Y) := by
 intro A w Q E x y R B rx ry K
 obtain ⟨_, rfl⟩ := rx.inv; obtain ⟨_, rfl⟩ := ry.inv
 exact wpAny_pure (a := Value.bool (Value.type X == Value.type Y)) (K w (Step.refl _ _) B)
theorem Cmp.isNotT {X Y : String} : Cmp C n .IsNot (.val (.type X)) (.val (.type Y)) H (!(Value.type X == Value.type Y)) := by
 intro A w Q E x y R B rx ry K
 obtain ⟨_, rfl⟩ := rx.inv; obtain ⟨_, rfl⟩ := ry.inv
 exact isnot_type (K w (Step.refl _ _) B)
theorem Typ.known {a : Addr} {o : Obj} {T : String} (ho : C.K.lookup a = some o) (hc : o.cls = .type T) (hd : o.dict = Option.none) : Typ C H (.val (.ref a)) T := fun w y B r => by
 obtain ⟨_, rfl⟩ := r.inv
 exact ⟨⟨_, B.X _ _ ho, hc⟩, fun b e => by cases e; exact ⟨_, B.X _ _ ho, hd⟩⟩
theorem Mth.search0 {q ct : Addr} {code : Array Nat} (P : Pat C q ct code) (hx : ∀ c ∈ x.cps, Miss code c) (hl : x.length < 2 ^ 60) : Mth C n (Str.ofString "search") (.val (.ref q)) [.str x] H H .none "re.Pattern" "re.Pattern.search" := ⟨plainAttrs_pat, slot_search, type_search, Fn.search0 P hx hl⟩
theorem Pat.typ {q ct : Addr} {code : Array Nat} (P : Pat C q ct code) : Typ C H (.val (.ref q)) "re.Pattern" := by
 obtain ⟨a, b, t, d, e, t', ho⟩ := P.obj
 exact Typ.known ho rfl rfl
theorem Tru.none : Tru C n .none H false := by
 intro A w Q E x R B rx K
 obtain ⟨_, rfl⟩ := rx.inv
 exact truthy_none (K w (Step.refl _ _) B)
set_option tactic.hygienic true in
theorem wp_peek1 {α : Type} {K : Frag} {M : Model} {A : Around} {E : Value → Shared → Prop} {Q : α → Shared → Prop} {s : Shared} {o : Obj} {r : α} (X : K.In s.heap) (q : Q r { s with heap := s.heap.push o }) :
  ∀ (t : Sem α) (g : Addr → Option α), peek1 K ⟨M.prog, M.w.params⟩ t = some (o, g) → g s.heap.objs.size = some r → wpAny M A t Q E s := by
 intro t
 induction t with
 | rule _ k ih => intro g e hg Γ p hΓ; exact ih () g e hg Γ p hΓ
 | point _ k ih => intro g e hg Γ p hΓ; exact ih () g e hg Γ p hΓ
 | ask k ih => intro g e hg Γ p hΓ; exact ih _ g e hg Γ p hΓ
 | load a _ k ih =>
  intro g e hg Γ p hΓ
  simp only [peek1] at e
  split at e
  ·rename_i ob ho; exact ⟨ob, X _ _ ho, ih ob g e hg Γ p hΓ⟩
  ·cases e
 | alloc ob k _ =>
  intro g e hg
  have e : some (ob, fun D => peek K ⟨M.prog, M.w.params⟩ (k D)) = some (o, g) := e
  obtain ⟨e1, e2⟩ := Prod.mk.inj (Option.some.inj e)
  subst e1
  subst e2
  have X' : K.In (s.heap.push ob) := X.keeps fun b x hb => Heap.get?_push_of_some _ hb
  show wpAny M A (alloc ob >>= k) Q E s
  exact wpAny_bind (wpAny_alloc ((Looks.of_peek (M := M) (h := s.heap.push ob) X' hg).here (s := { s with heap := s.heap.push ob }) q))
 | _ => intro g e; cases e
theorem BindsX.kw {fd : FuncData} {args : List V} {ns : List Str} (h : ∀ (xs : List Value) (D : Addr), xs.length = args.length → (peek1 C.K ⟨C.M.prog, C.M.w.params⟩ (bindArgs fd ⟨xs, []⟩)).map (fun r => (r.1, r.2 D)) = some (emptyDict, some (ns.zip (xs ++ [.ref D])))) :
  BindsX C fd args [] ns (args ++ [.ref H.length]) H (H ++ [.sem bareA]) := by
 intro A w Q E xs ks _ B rx rk K
 cases rk.inv0
 obtain ⟨ρ, π, s⟩ := w
 have e := h xs s.heap.objs.size rx.length
 obtain ⟨⟨o, g⟩, e1, e2⟩ := Option.map_eq_some_iff.mp e
 obtain ⟨e3, e4⟩ := Prod.mk.inj e2
 dsimp only at e3 e4
 subst e3
 have hn : s.heap.get? s.heap.objs.size = Option.none := size_none _
 obtain ⟨B1, S1⟩ := B.track (s' := { s with heap := s.heap.push emptyDict }) (a := s.heap.objs.size) (o := .sem bareA) (fun b ob e => Heap.get?_push_of_some _ e) rfl rfl (Nat.le_refl _) hn B.size3 (fun q_ => .sem (Heap.get?_push_size _ rfl) rfl) (fun P e => by cases e; exact Nat.zero_le _)
 refine wp_peek1 (M := C.M) B.X ?_ _ g e1 e4
 exact K ⟨ρ ++ [s.heap.objs.size], π, { s with heap := s.heap.push emptyDict }⟩ _ S1 B1 ((rx.step0 S1).append (.cons (.ref (by rw [← B.len]; simp)) .nil))
noncomputable def viewA (j : Nat) : Asrt where
 P w v := ∃ q d, v = .ref q ∧ q ∉ w.ρ ∧ w.h.get? q = some { cls := .type "dict_items", data := .fields #[.ref d] } ∧ w.ρ[j]? = some d
 mono {X w w' v} hX S h := by
  obtain ⟨a, d, rfl, n, e, r⟩ := h
  refine ⟨a, d, rfl, S.notin e n, S.keep _ _ e n (hX.hard e ?_), S.at r⟩
  rintro (⟨v, h⟩ | ⟨es, n, h⟩ | ⟨vs, T, h, hc, hT⟩)
  ·cases h
  ·cases h
  ·cases hc; exact absurd hT (by decide)
 top := j + 1
 low {w w' v} L h := by
  obtain ⟨a, d, rfl, n, e, r⟩ := h
  exact ⟨a, d, rfl, fun m => n (L.sub _ m), by rw [show w'.h = w.h from congrArg Shared.heap L.s]; exact e, (L.at_ j (Nat.lt_succ_self _)).trans r⟩
theorem bare_at {w : Wd} (B : BSt C w H) (hj : H[j]? = some (.sem bareA)) {d : Addr} (hd : w.ρ[j]? = some d) : w.s.heap.DictAt (strKind C.prog C.w) d [] 0 ∧ w.h.get? d = some emptyDict := by
 obtain ⟨d', o, hd', ho, rfl⟩ := B.sem hj
 obtain rfl := Option.some.inj (hd.symm.trans hd')
 exact ⟨⟨_, #[], ho, ⟨rfl, rfl, rfl⟩, rfl, (fun e he => by simp at he), .nil, .nil⟩, ho⟩
theorem Typ.bare (hj : H[j]? = some (.sem bareA)) : Typ C H (.ref j) "dict" := fun w y B r => by
 obtain ⟨_, rfl, hd⟩ := r.inv
 obtain ⟨_, ho⟩ := bare_at B hj hd
 exact ⟨⟨_, ho, rfl⟩, fun b e => by cases e; exact ⟨_, ho, rfl⟩⟩
theorem sysModules_low {w : Wd} (B : BSt C w H) {d : Addr} (hd : w.ρ[j]? = some d) : (d == sysModules) = false := by
 rw [beq_eq_false_iff_ne]
 exact (B.out _ (List.mem_of_getElem? hd)).2
theorem entry_itemsIter : entryFor table "dict_itemiterator.__iter__" = some Builtin.«dict_keyiterator.__iter__» := entryFor_alias (id' := "dict_keyiterator.__iter__") (by kernel_rfl) rfl (by decide +kernel) (by kernel_rfl)
theorem Mth.items (hj : H[j]? = some (.sem bareA)) : Mth C n (Str.ofString "items") (.ref j) [] H H (.sem (viewA j)) "dict" "dict.items" := by
 refine ⟨F.plainAttrs_dict, F.slot_dict_items, F.type_dict_items, ?_⟩
 intro A w Q E g xs ks R B rg rx rk K
 obtain ⟨_, rfl⟩ := rg.inv
 obtain ⟨z, rfl, r1⟩ := rx.inv1
 cases rk.inv0
 cases r1 with | @ref _ d hd =>
 obtain ⟨hm, ho⟩ := bare_at B hj hd
 have hdo : w.s.heap.DictOf (strKind C.prog C.w) d [] := let ⟨o, es, h⟩ := hm; ⟨o, es, 0, h⟩
 refine call_meetsIn (self := .ref d) F.slot_dict_items ⟨_, ho, rfl⟩ F.entry_dict_items (F.args_dict_items_1 _) (meets_dict_items (strKind C.prog C.w) _ (sysModules_low B hd)) ⟨⟨[], hdo⟩, ?_⟩
 have X1 : Ext w ⟨w.ρ, w.π, { w.s with heap := w.s.heap.push { cls := .type "dict_items", data := .fields #[.ref d] } }⟩ := Ext.push _
 exact K ⟨w.ρ, w.π, _⟩ _ X1.step (B.ext X1) (.sem ⟨_, _, rfl, B.fresh (size_none _), Heap.get?_push_size _ rfl, hd⟩)
theorem Src.items (hj : H[j]? = some (.sem bareA)) : Src C n (.sem (viewA j)) H (fun H' => H'[j]? = some (.sem bareA)) [] := by
 intro A w y Q E R B r K
 have r := r.inv
 obtain ⟨q, d, rfl, nq, hq, hd⟩ := r
 obtain ⟨hm, ho⟩ := bare_at B hj hd
 refine wpAny_pyIter_items (kvs := ([] : List (Str × Value))) ⟨_, hq, rfl, rfl⟩ hm ?_
 have X1 : Ext w ⟨w.ρ, w.π, { w.s with heap := w.s.heap.push { cls := .type "dict_itemiterator", data := .fields #[.none, .bool false, .ref d, .int 0 0, .int (([] : List (Str × Value)).length : Int) 0, .int (0 : Nat) 0, .none, .none] } }⟩ := Ext.push _
 refine K ⟨w.ρ, w.π, _⟩ (.ref w.s.heap.objs.size) [w.s.heap.objs.size] (fun q_ w' => w'.ρ[j]? = some d ∧ IsItemIter w'.h w.s.heap.objs.size d 0 0 0 .none .none) (fun q_ q_ w' => IsItemIter w'.h w.s.heap.objs.size d 0 0 0 .none .none) X1.step (B.ext X1) (fun b hb => ?_) (NextOk.b ?_) ⟨hd, Heap.get?_push_size _ rfl⟩
 ·rw [List.mem_singleton.mp hb]; exact size_none _
 ·generalize w.s.heap.objs.size = I
  refine ⟨fun A w1 Q E R p K => ?_, ?_, ?_, ?_, ?_, ?_, ?_⟩
  ·have hT : w1.s.TypeIs (.ref I) "dict_itemiterator" := ⟨_, p.2, rfl⟩
   refine wpAny_pyIter_slot hT F.slot_dict_itemiterator_iter (wpAny_call_entry F.slot_dict_itemiterator_iter hT entry_itemsIter ?_ (F.args_dict_itemiterator_iter_1 _))
   show wpAny _ _ (PySem.ret (.ref I)) _ _ _
   exact wpAny_pure ⟨_, rfl, "dict_itemiterator", _, hT, F.slot_dict_itemiterator_next.lookup, K⟩
  ·intro i w' hit b hb
   rw [List.mem_singleton.mp hb]
   exact ⟨_, _, _, hit.2, rfl, rfl, by decide⟩
  ·intro i y w' hit b hb
   rw [List.mem_singleton.mp hb]
   exact ⟨_, _, _, hit, rfl, rfl, by decide⟩
  ·intro i w1 w2 Y hit S hY hXY hρ
   exact ⟨S.at hit.1, S.keep _ _ hit.2 (hρ I (.head _)) (hXY I (.head _))⟩
  ·intro i v A w1 H1 Q E hi
   simp at hi
  ·intro A w1 H1 Q E R B1 ok hit hX K
   obtain ⟨hm', ho'⟩ := bare_at B1 ok hit.1
   refine wpAny_pyNext_items_end (kvs := ([] : List (Str × Value))) (i := 0) R.hd hit.2 hm' rfl fun h' hs => ?_
   obtain ⟨S, ht⟩ := step_extBut (w := w1) hs
   exact K ⟨w1.ρ, w1.π, _⟩ S rfl ht
  ·intro i A w1 H1 target v y Q E _ hi
   simp at hi
end
end
section
section
variable {C : Ct} {n : Nat} {env : Env} {σ σ' σ1 : Loc} {H H' H0 H1 H2 H3 : List HObj} {pos p0 pos' apos p : Pos} {k : Nat} {x y name id : Str} {v v1 v2 v3 : V} {e e1 e2 e3 : PySem.Expr} {i j : Int} {a b : Int}
theorem Ev.meth0 {T mid : String} (h : Ev C n env σ H e H1 v1) (hm : Mth C n name v1 [] H1 H3 v T mid) (ht : Typ C H1 v1 T)
  (hbase : attributeBase e name env (eval e env) = eval e env) (hline : (apos.endLine == pos.line) = true) : Ev C n env σ H (.Call (.Attribute e name apos) [] [] pos) H3 v := by
 intro A w Q E R B F K
 refine wpAny_Call_method_lateS hbase rfl hline (h A w _ E R B F fun w1 x S1 B1 F1 r1 => ⟨T, mid, hm.pa, hm.slot, hm.ty, (ht w1 x B1 r1).1, (ht w1 x B1 r1).2, ?_⟩)
 refine callWith_of (P := fun q_ => True) (first := [x]) rfl (fun q_ q_ => ⟨.machine, .inr (.inl rfl), Looks.of_pure rfl⟩) (evalArgs_nil3 ⟨trivial, ?_⟩)
 have := hm.fn A w1 Q E (.builtin mid) [x] [] R B1 (.val _) (.cons r1 .nil) .nil fun w3 y S3 B3 r => K w3 y (S1.trans S3) B3 (F1.step0 S3) r
 exact this
theorem Ev.sliceS {lo hi : Option PySem.Expr} {i j : Option Int} (h1 : Ev C n env σ H e H1 (.str x)) (h2 : EvP C n env σ H1 lo H2 i) (h3 : EvP C n env σ H2 hi H3 j) (hz : x.length ≤ sizeLine)
  (hs : ∀ o i, ∃ ops, subscripted (.Slice lo hi Option.none p) false o i = operate ops (getItem o i)) : Ev C n env σ H (.Subscript e (.Slice lo hi Option.none p) pos) H3 (.str (Txt.slice x i j)) := by
 intro A w Q E R B F K
 refine Subscript_ (h1 A w _ E R B F fun w1 y1 S1 B1 F1 r1 => wpAny_Slice (h2 A w1 _ E R B1 F1 fun w2 t2 S2 B2 F2 => h3 A w2 _ E R B2 F2 fun w3 t3 S3 B3 F3 => wpAny_pure ?_))
 obtain ⟨t, rfl⟩ := r1.inv
 obtain ⟨ops, hops⟩ := hs (.str x t) (.ref w3.s.heap.objs.size)
 refine PyProof.Rows.tail_any (T := "str") (typeIs_str _ _ _) PySem.F.slot_str_getitem.lookup ?_ hops
 refine wpAny_with_toks (n := w3.s.toks) (Nat.le_refl _) ?_
 refine wpAny_getItem_str_slice (l := i.map fun j => (j, t2)) (u := j.map fun j => (j, t3)) (st := Option.none) ⟨_, Heap.get?_push_size _ rfl, rfl, ?_⟩ rfl ?_
 ·cases i <;> cases j <;> rfl
 ·have e3 : slicePicked x (i.map fun j => (j, t2)) (j.map fun j => (j, t3)) Option.none = Builtin.Str.strSliceIndices i j 1 x.length := by cases i <;> cases j <;> rfl
  unfold sliceMade
  rw [e3]
  refine post_val_or_str ⟨Nat.le_trans (Txt.slice_le x i j) hz, fun t' k htk => ?_⟩
  have X : Ext w3 ⟨w3.ρ, w3.π, { w3.s with heap := w3.s.heap.push { cls := .type "slice", data := .fields #[partValue (i.map fun j => (j, t2)), partValue (j.map fun j => (j, t3)), .none] }, toks := k }⟩ :=
   ⟨rfl, fun q_ q_ e => Heap.get?_push_of_some _ e, rfl, rfl, rfl, htk⟩
  exact K ⟨w3.ρ, w3.π, _⟩ _ (((S1.trans S2).trans S3).trans X.step) (B3.ext X) (F3.ext X) (.str _ _)
theorem Cmp.inStrs {u : V} {ns : List Str} (h : Lsy H u (ns.map .str)) : Cmp C n .In (.str x) u H (decide (x ∈ ns)) := by
 intro A w Q E z y R B rx ry K
 obtain ⟨t, rfl⟩ := rx.inv
 obtain ⟨q, vs, m, rfl, e1, r⟩ := h.isL B ry
 refine in_list_strs (isList_ofL e1) (strsAre r) ?_
 have e : ns.any (· == x) = decide (x ∈ ns) := by
  rw [Bool.eq_iff_iff, List.any_eq_true, decide_eq_true_iff]
  exact ⟨fun ⟨y, h1, h2⟩ => by rw [beq_iff_eq] at h2; exact h2 ▸ h1, fun h => ⟨x, h, by simp⟩⟩
 rw [e]
 exact K w (Step.refl _ _) B
theorem Itm.str {k : Nat} {c : Nat} (hk : x.cps[k]? = some c) (hb : k < 2 ^ 60) (hp : Plain1 e) : Itm C n e (.str x) (.int (k : Int)) H (.str ⟨#[c]⟩) := by
 intro A w Q E z y value R B rx ry K
 obtain ⟨_, rfl⟩ := rx.inv; obtain ⟨_, rfl⟩ := ry.inv
 have hlt : k < x.length := by
  have := (Array.getElem?_eq_some_iff.mp hk).1
  exact this
 refine tail_any (typeIs_str _ _ _) PySem.F.slot_str_getitem.lookup (getItem_gives (typeIs_str _ _ _) (by decide) PySem.F.slot_str_getitem PySem.F.entry_str_getitem (PySem.F.args_str_getitem_2 _ _)
  (gives_str_getitem x k _ _ c (by rw [Bool.or_eq_false_iff, decide_eq_false_iff_not, decide_eq_false_iff_not]; lia) (by
   have e : seqIndex? (k : Int) x.length = some k := by unfold seqIndex?; simp; lia
   rw [e]; exact hk)) ⟨(by show 1 ≤ sizeLine; decide), K ⟨w.ρ, w.π, _⟩ _ Ext.toks.step (B.ext Ext.toks) (.str _ _)⟩) (hp _ _)
end
end
theorem fill0 : ∀ P, (hd02.heap_39 P).length = 0 → PySem.Challenge.rw_ta0122_02.prog = PySem.Challenge.rw_ta0122_02.prog := by
 k_fill
 intros; rfl
noncomputable def toldS : List String := ["(", ")", "[", "]", ":", ",", ";", "+", "-", "*", "/", "|", "&", "<", ">", "=", ".", "%", "{", "}", "==", "!=", "<=", ">=", "~", "^", "<<", ">>", "**", "+=", "-=", "*=", "/=", "%=", "&=", "|=", "^=", "<<=", ">>=", "**=", "//", "//=", "@", "@=", "->", "...", ":=", "!"]
noncomputable def toldL : List Str := toldS.map Str.ofString
noncomputable def EXT (P : Params) : Array DictEntry := match (hd02.heap_39 P).lookup 80 with
 | some ⟨_, _, .dict es _, _⟩ => es
 | _ => #[]
theorem ext_top_of {c : C1} {es : Array DictEntry} {n : Nat} (h1 : (hd02.heap_39 c.w.params).lookup 80 = some ⟨.type "dict", none, .dict es n, #[]⟩) (h2 : KeysLit c.w.params es.toList) : TopDict c.ct 80 (EXT c.w.params) := by
 have : EXT c.w.params = es := by unfold EXT; rw [h1]
 rw [this]
 exact ⟨n, h1, h2⟩
theorem ext_top (c : C1) : TopDict c.ct 80 (EXT c.w.params) := by
 refine' ext_top_of ?k1 ?k2
 case k1 => k_is
 case k2 => k_keys
noncomputable def vInt : Option Value → Option Int
 | some (.int i _) => some i
 | _ => none
theorem vInt_inv {v : Value} {i : Int} (h : vInt (some v) = some i) : ∃ t, v = .int i t := by
 cases v with
 | int j t => obtain rfl := Option.some.inj h; exact ⟨t, rfl⟩
 | _ => cases h
noncomputable def tokOf (P : Params) (x : Str) : Option Int := vInt (findBy Value.isStrOf (EXT P) x)
theorem told_all (P : Params) : (toldL.zipIdx.all fun p => tokOf P p.1 == some (7 + (p.2 : Int))) = true := by kernel_rfl
theorem tok_at (P : Params) {k : Nat} {x : Str} (h : toldL[k]? = some x) : ∃ t, findBy Value.isStrOf (EXT P) x = some (.int (7 + k) t) := by
 have q := List.all_eq_true.mp (told_all P) (x, k) (List.mem_zipIdx_iff_getElem?.mpr h)
 have q' : tokOf P x = some (7 + (k : Int)) := by simpa using q
 unfold tokOf at q'
 cases e : findBy Value.isStrOf (EXT P) x with
 | none => rw [e] at q'; cases q'
 | some v =>
  rw [e] at q'
  obtain ⟨t, rfl⟩ := vInt_inv q'
  exact ⟨t, rfl⟩
noncomputable abbrev cutQ (x : Str) : Str := Txt.slice x none (some (-1))
theorem fn_number (c : C1) (H : List HObj) {x : Str} {k : Nat} (hx : toldL[k]? = some (cutQ x)) (hl : x.length ≤ 100000) : Fn c.ct 3 (.val (.ref 258)) [.str x] [] H H (.int (208 + k)) := by
 obtain ⟨t, ht⟩ := tok_at c.w.params hx
 refine Fn.eq (v' := .int (201 + (7 + k))) ?_ (by congr 1; lia)
 refine' fnOf (ns := [PySem.Str.ofString "name"]) (vs := [.str x]) ?ho ?hb ?hst ?hcd ?hns ?hnd ?hbind ?hbody ?hfin
 case ho => k_is
 case hb => exact rfl
 case hst => kernel_rfl
 case hcd => k_is
 case hns => kernel_rfl
 case hnd => decide
 case hbind => exact bind1 fun q_ => Looks.of_pure rfl
 case hbody =>
  intro env hS; dsimp only at hS
  refine' Ex.one (Es.ret (Ev.bin Ev.int (Ev.sub (gV (by k_is) (kind_of hS rfl)) (Ev.sliceS (Ev.loc rfl) EvP.none (EvP.some (Ev.una Ev.int Una.neg)) (Nat.le_trans hl (by decide)) (fun q_ q_ => ⟨_, rfl⟩)) (Itm.dict (ext_top _) ht (fun q_ => VRel.int _ _) (fun q_ q_ => rfl))) Bin.addInt))
 case hfin => first | exact Fin.ret | exact Fin.next
section
section
variable {c : C1} {C : Ct} {n : Nat} {env : Env} {σ : Loc} {H H1 H2 H3 : List HObj} {x : Str} {pos : Pos} {y : Value} {v : V} {e1 e2 e3 : PySem.Expr} {b : Bool} {o : Out} {body orelse : List PySem.Stmt}
set_option tactic.hygienic true in
theorem sub_cons {σ : Loc} {y : Str} {u : V} (h : σ.lookup y = none) : ∀ x v, σ.lookup x = some v → ((y, u) :: σ).lookup x = some v := by
 intro x v e
 simp only [List.lookup]
 split
 ·rename_i q; rw [beq_iff_eq.mp q, h] at e; cases e
 ·exact e
set_option tactic.hygienic true in
theorem sub_two {σ : Loc} {y z : Str} {u u' : V} (h : σ.lookup y = none) (h' : σ.lookup z = none) : ∀ x v, σ.lookup x = some v → ((y, u) :: (z, u') :: σ).lookup x = some v := fun x v e => by
 have := sub_cons (u := u') h' x v e
 simp only [List.lookup]
 split
 ·rename_i q; rw [beq_iff_eq.mp q, h] at e; cases e
 ·exact this
theorem Cmp.isB {a b : Bool} : Cmp C n .Is (.bool a) (.bool b) H (a == b) := by
 intro A w Q E x y R B rx ry K
 obtain ⟨_, rfl⟩ := rx.inv; obtain ⟨_, rfl⟩ := ry.inv
 show wpAny C.M A (do return .bool (← isSame (.bool a) (.bool b))) Q E w.s
 have : isSame (.bool a) (.bool b) = pure (a == b) := by cases a <;> cases b <;> rfl
 rw [this]
 exact wpAny_bind (wpAny_pure (wpAny_pure (K w (Step.refl _ _) B)))
theorem gI {i : Int} {t : Tok} (h : nsIn (hd02.heap_39 c.w.params) mainGlobals x = some (some (.int i t))) (hx : env.kindOf x = some .globalImplicit) (hd : (x == ("__debug__" : Str)) = false) : Ev c.ct n env σ H (.Name x pos) H (.int i) := Ev.glob h (fun q_ => .int _ _) hx hd
theorem Ev.compS {S scope : Scope} {elt target iter : PySem.Expr} {ifs : List PySem.Expr} {Ok : List HObj → Prop} {T : PySem.Expr → Bool} {l rs : List V} (hS : env.scope = S) (he : SrcE C n env σ H iter H1 Ok T l) (hT : T target = true) (hOk : ∀ K, Ok (H1 ++ K)) (ok : compOk scope S = true)
  (hco : ∀ cenv : Env, cenv.scope = relS scope S → Co C n cenv target ifs elt (inner scope σ) H1 l rs) (hlen : l.length ≤ sizeLine) (hfold : ∀ (env : Env) x, foldedSetIterable iter env x = pure x) (hH : H.length ≤ H1.length) :
  Ev C n env σ H (.ListComp elt [⟨target, iter, ifs, 0⟩] scope pos) H1 (.lst rs) := by subst hS; exact Ev.comp he hT hOk ok hco hlen hfold hH
theorem Es.compS {S scope : Scope} {elt target iter : PySem.Expr} {ifs : List PySem.Expr} {Ok : List HObj → Prop} {T : PySem.Expr → Bool} {l rs : List V} {x : Str} {pos' spos : Pos} (hS : env.scope = S) (he : SrcE C n env σ H iter H1 Ok T l) (hT : T target = true) (hOk : ∀ K, Ok (H1 ++ K)) (ok : compOk scope S = true)
  (hco : ∀ cenv : Env, cenv.scope = relS scope S → Co C n cenv target ifs elt (inner scope σ) H1 l rs) (hlen : l.length ≤ sizeLine) (hfold : ∀ (env : Env) x, foldedSetIterable iter env x = pure x) (hH : H.length ≤ H1.length) (hk : Sto env x)
  (hsw : ∀ env' : Env, env'.scope = S → swapsWith (.ListComp elt [⟨target, iter, ifs, 0⟩] scope pos) (some (.Name x pos')) spos.line env' = pure true) :
  Es C n env σ H (.Assign [.Name x pos'] (.ListComp elt [⟨target, iter, ifs, 0⟩] scope pos) spos) (.next ((x, .lst rs) :: σ) H1) := by subst hS; exact Es.comp he hT hOk ok hco hlen hfold hH hk (hsw _ rfl)
end
theorem swaps_of {e : Env} {S : Scope} {value : PySem.Expr} {t : PySem.Expr} {line : Nat} {b : Bool} (he : e.scope = S) (h : ∀ e : Env, e.scope = S → swapsWith value (some t) line e = pure b) : swapsWith value (some t) line e = pure b := h e he
theorem Ev.ifTb {C : Ct} {n : Nat} {env : Env} {σ : Loc} {H H1 H2 : List HObj} {pos : Pos} {v : V} {e1 e2 e3 : PySem.Expr} {b : Bool} (h : Tst C n env σ H e1 H1 b) (hb : b = true) (h2 : Ev C n env σ H1 e2 H2 v) : Ev C n env σ H (.IfExp e1 e2 e3 pos) H2 v := Ev.ifT (hb ▸ h) h2
theorem Ev.ifFb {C : Ct} {n : Nat} {env : Env} {σ : Loc} {H H1 H2 : List HObj} {pos : Pos} {v : V} {e1 e2 e3 : PySem.Expr} {b : Bool} (h : Tst C n env σ H e1 H1 b) (hb : b = false) (h2 : Ev C n env σ H1 e3 H2 v) : Ev C n env σ H (.IfExp e1 e2 e3 pos) H2 v := Ev.ifF (hb ▸ h) h2
theorem Es.ifTb {C : Ct} {n : Nat} {env : Env} {σ : Loc} {H H1 : List HObj} {pos : Pos} {e : PySem.Expr} {b : Bool} {o : Out} {body orelse : List PySem.Stmt} (h : Tst C n env σ H e H1 b) (hb : b = true) (h2 : Ex C n env σ H1 body o) : Es C n env σ H (.If e body orelse pos) o := Es.ifT (hb ▸ h) h2
theorem Es.ifFb {C : Ct} {n : Nat} {env : Env} {σ : Loc} {H H1 : List HObj} {pos : Pos} {e : PySem.Expr} {b : Bool} {o : Out} {body orelse : List PySem.Stmt} (h : Tst C n env σ H e H1 b) (hb : b = false) (h2 : Ex C n env σ H1 orelse o) : Es C n env σ H (.If e body orelse pos) o := Es.ifF (hb ▸ h) h2
theorem BoT.nextb {C : Ct} {n : Nat} {env : Env} {σ : Loc} {op : BoolOp} {e : PySem.Expr} {es : List PySem.Expr} {H H1 H' : List HObj} {b b0 : Bool} (h : Tst C n env σ H e H1 b0) (hb : b0 = (op == .And)) (h2 : BoT C n env σ op es H1 H' b) : BoT C n env σ op (e :: es) H H' b := BoT.next (hb ▸ h) h2
theorem BoV.nextb {C : Ct} {n : Nat} {env : Env} {σ : Loc} {op : BoolOp} {e e2 : PySem.Expr} {es : List PySem.Expr} {H H1 H' : List HObj} {b0 : Bool} {v v' : V} (h : Ev C n env σ H e H1 v) (ht : Tru C n v H1 b0) (hb : b0 = (op == .And)) (h2 : BoV C n env σ op (e2 :: es) H1 H' v') (he : ∀ env : Env, evalEach (e :: e2 :: es) env = eval e env :: evalEach (e2 :: es) env) : BoV C n env σ op (e :: e2 :: es) H H' v' := BoV.next h (hb ▸ ht) h2 he
theorem kpK {c : C1} {f : Value} (h : keepIn (hd02.heap_39 c.w.params) f = true) : Kp c.ct (.val f) := Kp.ofK h
end
theorem gI' {c : C1} {n : Nat} {env : Env} {σ : Loc} {H : List HObj} {x : Str} {pos : Pos} {i : Int} (h : ∃ t, nsIn (hd02.heap_39 c.w.params) mainGlobals x = some (some (.int i t))) (hx : env.kindOf x = some .globalImplicit) (hd : (x == ("__debug__" : Str)) = false := by decide) : Ev c.ct n env σ H (.Name x pos) H (.int i) := by
 obtain ⟨t, h⟩ := h
 exact gI h hx hd
theorem g_insort_right (c : C1) : nsIn (hd02.heap_39 c.w.params) mainGlobals (Str.ofString "insort_right") = some (some (.ref 40)) := by k_is
theorem kp_insort_right (c : C1) : Kp c.ct (.val (.ref 40)) := kpK (by k_is)
theorem g_bisect_right (c : C1) : nsIn (hd02.heap_39 c.w.params) mainGlobals (Str.ofString "bisect_right") = some (some (.ref 49)) := by k_is
theorem kp_bisect_right (c : C1) : Kp c.ct (.val (.ref 49)) := kpK (by k_is)
theorem g_bisect_left (c : C1) : nsIn (hd02.heap_39 c.w.params) mainGlobals (Str.ofString "bisect_left") = some (some (.ref 58)) := by k_is
theorem kp_bisect_left (c : C1) : Kp c.ct (.val (.ref 58)) := kpK (by k_is)
theorem g_rgb_to_hls (c : C1) : nsIn (hd02.heap_39 c.w.params) mainGlobals (Str.ofString "rgb_to_hls") = some (some (.ref 65)) := by k_is
theorem kp_rgb_to_hls (c : C1) : Kp c.ct (.val (.ref 65)) := kpK (by k_is)
theorem g_rgb_to_hsv (c : C1) : nsIn (hd02.heap_39 c.w.params) mainGlobals (Str.ofString "rgb_to_hsv") = some (some (.ref 72)) := by k_is
theorem kp_rgb_to_hsv (c : C1) : Kp c.ct (.val (.ref 72)) := kpK (by k_is)
theorem g_hsv_to_rgb (c : C1) : nsIn (hd02.heap_39 c.w.params) mainGlobals (Str.ofString "hsv_to_rgb") = some (some (.ref 79)) := by k_is
theorem kp_hsv_to_rgb (c : C1) : Kp c.ct (.val (.ref 79)) := kpK (by k_is)
theorem g_ISTERMINAL (c : C1) : nsIn (hd02.heap_39 c.w.params) mainGlobals (Str.ofString "ISTERMINAL") = some (some (.ref 89)) := by k_is
theorem kp_ISTERMINAL (c : C1) : Kp c.ct (.val (.ref 89)) := kpK (by k_is)
theorem g_ISNONTERMINAL (c : C1) : nsIn (hd02.heap_39 c.w.params) mainGlobals (Str.ofString "ISNONTERMINAL") = some (some (.ref 96)) := by k_is
theorem kp_ISNONTERMINAL (c : C1) : Kp c.ct (.val (.ref 96)) := kpK (by k_is)
theorem g_ISEOF (c : C1) : nsIn (hd02.heap_39 c.w.params) mainGlobals (Str.ofString "ISEOF") = some (some (.ref 103)) := by k_is
theorem kp_ISEOF (c : C1) : Kp c.ct (.val (.ref 103)) := kpK (by k_is)
theorem g_Headers (c : C1) : nsIn (hd02.heap_39 c.w.params) mainGlobals (Str.ofString "Headers") = some (some (.ref 247)) := by k_is
theorem kp_Headers (c : C1) : Kp c.ct (.val (.ref 247)) := kpK (by k_is)
theorem g_law_number (c : C1) : nsIn (hd02.heap_39 c.w.params) mainGlobals (Str.ofString "_law_number") = some (some (.ref 258)) := by k_is
theorem kp_law_number (c : C1) : Kp c.ct (.val (.ref 258)) := kpK (by k_is)
theorem g_law_booked (c : C1) : nsIn (hd02.heap_39 c.w.params) mainGlobals (Str.ofString "_law_booked") = some (some (.ref 263)) := by k_is
theorem kp_law_booked (c : C1) : Kp c.ct (.val (.ref 263)) := kpK (by k_is)
theorem g_law_weights (c : C1) : nsIn (hd02.heap_39 c.w.params) mainGlobals (Str.ofString "_law_weights") = some (some (.ref 268)) := by k_is
theorem kp_law_weights (c : C1) : Kp c.ct (.val (.ref 268)) := kpK (by k_is)
theorem g_law_grown (c : C1) : nsIn (hd02.heap_39 c.w.params) mainGlobals (Str.ofString "_law_grown") = some (some (.ref 273)) := by k_is
theorem kp_law_grown (c : C1) : Kp c.ct (.val (.ref 273)) := kpK (by k_is)
theorem g_law_depths (c : C1) : nsIn (hd02.heap_39 c.w.params) mainGlobals (Str.ofString "_law_depths") = some (some (.ref 278)) := by k_is
theorem kp_law_depths (c : C1) : Kp c.ct (.val (.ref 278)) := kpK (by k_is)
theorem g_law_least (c : C1) : nsIn (hd02.heap_39 c.w.params) mainGlobals (Str.ofString "_law_least") = some (some (.ref 283)) := by k_is
theorem kp_law_least (c : C1) : Kp c.ct (.val (.ref 283)) := kpK (by k_is)
theorem g_law_told (c : C1) : nsIn (hd02.heap_39 c.w.params) mainGlobals (Str.ofString "_law_told") = some (some (.ref 290)) := by k_is
theorem kp_law_told (c : C1) : Kp c.ct (.val (.ref 290)) := kpK (by k_is)
theorem g_name_disallowed_re (c : C1) : nsIn (hd02.heap_39 c.w.params) mainGlobals (Str.ofString "_name_disallowed_re") = some (some (.ref 113)) := by k_is
theorem g_value_disallowed_re (c : C1) : nsIn (hd02.heap_39 c.w.params) mainGlobals (Str.ofString "_value_disallowed_re") = some (some (.ref 118)) := by k_is
theorem g_NT_OFFSET (c : C1) : ∃ t, nsIn (hd02.heap_39 c.w.params) mainGlobals (Str.ofString "NT_OFFSET") = some (some (.int 256 t)) := ⟨_, by k_is⟩
theorem g_ENDMARKER (c : C1) : ∃ t, nsIn (hd02.heap_39 c.w.params) mainGlobals (Str.ofString "ENDMARKER") = some (some (.int 0 t)) := ⟨_, by k_is⟩
theorem g_list (c : C1) : nsIn (hd02.heap_39 c.w.params) mainGlobals (Str.ofString "list") = some none := by k_is
theorem g_zip (c : C1) : nsIn (hd02.heap_39 c.w.params) mainGlobals (Str.ofString "zip") = some none := by k_is
theorem g_range (c : C1) : nsIn (hd02.heap_39 c.w.params) mainGlobals (Str.ofString "range") = some none := by k_is
theorem g_enumerate (c : C1) : nsIn (hd02.heap_39 c.w.params) mainGlobals (Str.ofString "enumerate") = some none := by k_is
theorem g_str (c : C1) : nsIn (hd02.heap_39 c.w.params) mainGlobals (Str.ofString "str") = some none := by k_is
theorem g_int (c : C1) : nsIn (hd02.heap_39 c.w.params) mainGlobals (Str.ofString "int") = some none := by k_is
theorem g_len (c : C1) : nsIn (hd02.heap_39 c.w.params) mainGlobals (Str.ofString "len") = some none := by k_is
theorem g_sum (c : C1) : nsIn (hd02.heap_39 c.w.params) mainGlobals (Str.ofString "sum") = some none := by k_is
theorem g_max (c : C1) : nsIn (hd02.heap_39 c.w.params) mainGlobals (Str.ofString "max") = some none := by k_is
theorem g_min (c : C1) : nsIn (hd02.heap_39 c.w.params) mainGlobals (Str.ofString "min") = some none := by k_is
theorem g_sorted (c : C1) : nsIn (hd02.heap_39 c.w.params) mainGlobals (Str.ofString "sorted") = some none := by k_is
theorem g_type (c : C1) : nsIn (hd02.heap_39 c.w.params) mainGlobals (Str.ofString "type") = some none := by k_is
theorem Fo.runsN {C : Ct} {n : Nat} {env : Env} {σ : Loc} {H : List HObj} {target : PySem.Expr} {body : List PySem.Stmt} {Ok : List HObj → Prop} {l : List V} (N : Nat) (hN : l.length = N) (S : Nat → Loc) (G : Nat → List HObj) (hS : ∀ x u, (S 0).lookup x = some u → σ.lookup x = some u) (hG : G 0 = H) (hok : ∀ i, i ≤ l.length → Ok (G i))
  (turn : ∀ i v, l[i]? = some v → Turn C n env target body v (S i) (G i) (S (i + 1)) (G (i + 1))) : Fo C n env target body Ok l σ H (.next (S N) (G N)) := hN ▸ Fo.runs S G hS hG hok turn
theorem le_size {k : Nat} (h : k ≤ 16777216) : k ≤ sizeLine := h
theorem sw_of {env : Env} {S : Scope} {ts : List PySem.Expr} {e : PySem.Expr} {l : Nat} {b : Bool} (hS : env.scope = S) (h : ∀ env' : Env, env'.scope = S → swapsWithSole ts e l env' = pure b) : swapsWithSole ts e l env = pure b := h env hS
theorem ss_of {env : Env} {S : Scope} {ts : List PySem.Expr} {e : PySem.Expr} {r : Option (List Str)} (hS : env.scope = S) (h : ∀ env' : Env, env'.scope = S → swappedStores ts e env' = pure r) : swappedStores ts e env = pure r := h env hS
theorem in_of {env : Env} {S : Scope} (hS : env.scope = S) (h : ∀ env' : Env, env'.scope = S → interactive env' = false) : interactive env = false := h env hS
theorem stos_nil {env : Env} : ∀ x ∈ ([] : List Str), Sto env x := fun q_ h => nomatch h
theorem stos_cons {env : Env} {y : Str} {l : List Str} (h : Sto env y) (t : ∀ x ∈ l, Sto env x) : ∀ x ∈ y :: l, Sto env x := fun x m => by
 rcases List.mem_cons.mp m with rfl | m
 ·exact h
 ·exact t x m
theorem rng_at {a b : Int} {i : Nat} {v : V} (h : (rngL a b)[i]? = some v) : i < (b - a).toNat ∧ v = .int (a + i) := by
 unfold rngL at h
 rw [List.getElem?_map] at h
 cases q : (List.range (b - a).toNat)[i]? with
 | none => rw [q] at h; cases h
 | some k =>
  rw [q] at h
  have hi : i < (b - a).toNat := by
   have := (List.getElem?_eq_some_iff.mp q).1
   simpa using this
  rw [List.getElem?_range hi] at q
  cases q
  exact ⟨hi, (Option.some.inj h).symm⟩
set_option tactic.hygienic true in
theorem mulOk {a b : Int} (h : a.natAbs < 2 ^ 64) : IntMulOk a b := by
 refine IntMulOk.of_left ?_
 unfold Builtin.Int.intBits
 split
 ·exact Nat.zero_le _
 ·rename_i q
  have q' : a.natAbs ≠ 0 := by intro z; apply q; simp; lia
  have : a.natAbs.log2 < 64 := (Nat.log2_lt q').mpr h
  assumption
noncomputable def Subs (σ' σ1 : Loc) : Prop := ∀ x u, σ'.lookup x = some u → σ1.lookup x = some u
theorem subs_nil {σ1 : Loc} : Subs [] σ1 := fun q_ q_ h => by simp at h
set_option tactic.hygienic true in
theorem subs_cons {σ' σ1 : Loc} {y : Str} {v : V} (h : σ1.lookup y = some v) (t : Subs σ' σ1) : Subs ((y, v) :: σ') σ1 := fun x u e => by
 simp only [List.lookup] at e
 split at e
 ·rename_i q; cases e; rw [beq_iff_eq.mp q]; exact h
 ·exact t x u e
theorem Lsy.app {H K : List HObj} {u : V} {l : List V} (h : Lsy H u l) : Lsy (H ++ K) u l := by
 cases h with
 | lst => exact .lst
 | ref h => exact .ref (getElem?_append_some h)
section
open PySem.Float64
set_option exponentiation.threshold 3000
section
variable {C : Ct} {n : Nat} {H : List HObj} {i : Int}
end
end
section
theorem hard_code {o : Obj} {vs : Array Value} (hd : o.data = .fields vs) (hc : o.cls = .type "code") : ¬ Soft o := by
 rintro (⟨v, h⟩ | ⟨es, n, h⟩ | ⟨us, T, h, hT, hm⟩)
 ·exact nomatch hd.symm.trans h
 ·exact nomatch hd.symm.trans h
 ·rw [hc] at hT
  have : T = "code" := by injection hT with q; exact q.symm
  subst this
  exact absurd hm (by decide)
noncomputable def CodeOk (w : Wd) (c : Addr) (q : Str) : Prop := c ∉ w.ρ ∧ ∃ o vs t, w.h.get? c = some o ∧ o.cls = .type "code" ∧ o.data = .fields vs ∧ vs[1]? = some (.str q t)
theorem CodeOk.step {X : List Addr} {w w' : Wd} {c : Addr} {q : Str} (hX : NonSeq w X) (S : Step X w w') (h : CodeOk w c q) : CodeOk w' c q := by
 obtain ⟨n, o, vs, t, e, h1, h2, h3⟩ := h
 exact ⟨S.notin e n, o, vs, t, S.keep _ _ e n (hX.hard e (hard_code h2 h1)), h1, h2, h3⟩
theorem CodeOk.low {m : Nat} {w w' : Wd} {c : Addr} {q : Str} (L : Low m w w') (h : CodeOk w c q) : CodeOk w' c q := by
 obtain ⟨n, o, vs, t, e, r⟩ := h
 exact ⟨fun z => n (L.sub _ z), o, vs, t, by rw [show w'.h = w.h from congrArg Shared.heap L.s]; exact e, r⟩
theorem CodeOk.rec {w : Wd} {c : Addr} {q : Str} (h : CodeOk w c q) : w.s.heap.CodeRec (.ref c) q := by
 obtain ⟨n, o, vs, t, e, h1, h2, h3⟩ := h
 exact ⟨c, o, vs, t, rfl, e, h2, h3⟩
noncomputable def tabA (t : Nat) (P : Addr) (q : Str) : OAsrt where
 P w o := w.ρ[t]? = some P ∧ ∃ ps, o = tabObj ps ∧ TriplesOk ps.toList ∧ ∀ pos v, codeAmong pos ps.toList = some v → ∃ c, v = .ref c ∧ CodeOk w c q
 mono {X w w' o} hX S h := by
  obtain ⟨h0, ps, e, h1, h2⟩ := h
  exact ⟨S.at h0, ps, e, h1, fun pos v z => let ⟨c, a, b⟩ := h2 pos v z; ⟨c, a, b.step hX S⟩⟩
 hard {w o vs T} h hd hc := by
  obtain ⟨_, ps, e, _⟩ := h
  rw [e] at hc
  cases hc
 top := t + 1
 low {w w' o} L h := by
  obtain ⟨h0, ps, e, h1, h2⟩ := h
  exact ⟨(L.at_ t (Nat.lt_succ_self _)).trans h0, ps, e, h1, fun pos v z => let ⟨c, a, b⟩ := h2 pos v z; ⟨c, a, b.low L⟩⟩
 loose h := h
set_option tactic.hygienic true in
theorem codeAmong_more {pos : Pos} {v c : Value} {a b : Int} (l : List Value) (h : TriplesOk l) (e : codeAmong pos (l ++ [rawInt a, rawInt b, c]) = some v) : codeAmong pos l = some v ∨ v = c := by
 fun_induction TriplesOk l with
 | case1 =>
  simp only [List.nil_append, codeAmong, rawInt] at e
  split at e
  ·exact .inr (by cases e; rfl)
  ·cases e
 | case2 a t b u x rest ih =>
  simp only [List.cons_append, codeAmong] at e ⊢
  split at e
  ·rename_i q; rw [if_pos q]; exact .inl e
  ·rename_i q; rw [if_neg q]; exact ih h e
 | case3 l h1 h2 => exact h.elim
noncomputable def V.lowOk (m : Nat) : V → Bool
 | .ref i => decide (i < m)
 | v => v.dat
theorem VRel.lowOk {m : Nat} {w w' : Wd} (L : Low m w w') {v : V} {y : Value} (h : v.lowOk m = true) (r : VRel w v y) : VRel w' v y := by
 cases v with
 | ref i =>
  obtain ⟨a, rfl, e⟩ := r.inv
  exact .ref ((L.at_ i (of_decide_eq_true h)).trans e)
 | _ => exact r.dat L.s L.sub h
noncomputable abbrev lamObj (q : Str) (params : Arguments) (body : PySem.Expr) (scope : Scope) (clos : List (Str × Addr)) (pm : Value) (cd ctv : Value) : Obj :=
 { cls := .type "function", data := .func (kla_fn "<lambda>" q params body scope clos pm cd ctv) }
inductive LamP (h₀ : Heap) (q : Str) (params : Arguments) (body : PySem.Expr) (scope : Scope) (caps : List (Str × V)) (w : Wd) (g : Value) : Prop
 | mk (f c : Addr) (ctv pm : Value) (clos : List (Str × Addr)) : g = .ref f → f ∉ w.ρ → w.h.get? f = some (lamObj q params body scope clos pm (.ref c) ctv) → CodeOk w c q → (clos.map (·.2)).Nodup →
  (∀ p ∈ clos, p.2 ∈ w.π ∧ p.2 ∉ w.ρ ∧ h₀.get? p.2 = none ∧ ∃ v₀, w.h.IsCell p.2 v₀) → (∀ x v, caps.lookup x = some v → ∃ c y, clos.lookup x = some c ∧ w.h.IsCell c (some y) ∧ VRel w v y) → LamP h₀ q params body scope caps w g
noncomputable def lamA (h₀ : Heap) (q : Str) (params : Arguments) (body : PySem.Expr) (scope : Scope) (caps : List (Str × V)) (m : Nat) (hm : caps.all (fun p => p.2.lowOk m) = true) : Asrt where
 P w g := LamP h₀ q params body scope caps w g
 mono {X w w' g} hX S h := by
  obtain ⟨f, c, ctv, pm, clos, rfl, n, e, hc, nd, hp, hv⟩ := h
  have kc : ∀ p ∈ clos, ∀ v₀, w.h.IsCell p.2 v₀ → w'.h.IsCell p.2 v₀ := fun p m v₀ z => by
   obtain ⟨o, ho, hd⟩ := z
   exact ⟨o, S.keep _ o ho (hp p m).2.1 (fun z => (hX _ z).1 (hp p m).1), hd⟩
  refine ⟨f, c, ctv, pm, clos, rfl, S.notin e n, S.keep _ _ e n (hX.hard e ?_), hc.step hX S, nd, fun p m => ?_, fun x v z => ?_⟩
  ·rintro (⟨v, h⟩ | ⟨es, n, h⟩ | ⟨vs, T, h, _⟩) <;> cases h
  ·obtain ⟨h1, h2, h3, v₀, h4⟩ := hp p m
   obtain ⟨o, ho, _⟩ := id h4
   exact ⟨S.pin ▸ h1, S.notin ho h2, h3, v₀, kc p m v₀ h4⟩
  ·obtain ⟨c, y, h1, h2, h3⟩ := hv x v z
   exact ⟨c, y, h1, kc (x, c) (mem_of_lookup h1) _ h2, h3.step hX S⟩
 top := m
 low {w w' g} L h := by
  obtain ⟨f, c, ctv, pm, clos, rfl, n, e, hc, nd, hp, hv⟩ := h
  have hh : w'.h = w.h := congrArg Shared.heap L.s
  refine ⟨f, c, ctv, pm, clos, rfl, fun z => n (L.sub _ z), by rw [hh]; exact e, hc.low L, nd, fun p m => ?_, fun x v z => ?_⟩
  ·obtain ⟨h1, h2, h3, v₀, h4⟩ := hp p m
   exact ⟨L.pin ▸ h1, fun z => h2 (L.sub _ z), h3, v₀, by rw [hh]; exact h4⟩
  ·obtain ⟨c, y, h1, h2, h3⟩ := hv x v z
   exact ⟨c, y, h1, by rw [hh]; exact h2, h3.lowOk L (List.all_eq_true.mp hm (x, v) (mem_of_lookup z))⟩
noncomputable def lamOk (scope : Scope) (ns cs : List Str) : Bool := scope.kind == .function && !scope.isCoroutine && !scope.isGenerator && scope.names.all (fun p => p.2 != .cell) && ns.all (fun x => scope.names.lookup x == some .local) && cs.all (fun x => scope.names.lookup x == some .free)
theorem zip_rev {w : Wd} {ns : List Str} {vs : List V} {ys : List Value} (hn : ns.Nodup) (r : VRels w vs ys) {x : Str} {v : V} (e : (ns.zip vs).lookup x = some v) : ∃ y, (ns.zip ys).reverse.lookup x = some y ∧ VRel w v y := by
 obtain ⟨y, m, h⟩ := zip_slots r e
 refine ⟨y, ?_, h⟩
 have nd : ((ns.zip ys).reverse.map (·.1)).Nodup := by rw [List.map_reverse]; exact (List.reverse_perm _).nodup_iff.mpr (zip_nodup ns ys hn)
 exact lookup_of_nodup nd (List.mem_reverse.mpr m)
section
variable {C : Ct} {n : Nat} {env : Env} {σ σ' σ1 : Loc} {H H' H0 H1 H2 H3 : List HObj} {pos p0 pos' apos p : Pos} {k : Nat} {x y name id : Str} {v v1 v2 v3 : V} {e e1 e2 e3 : PySem.Expr}
 {q : Str} {params : Arguments} {body : PySem.Expr} {scope : Scope} {caps : List (Str × V)} {m : Nat} {hm : caps.all (fun p => p.2.lowOk m) = true} {ns : List Str} {args : List V} {t : Nat} {P c : Addr}
theorem Fn.lam (hok : lamOk scope ns (caps.map (·.1)) = true) (hn : ns.Nodup) (hb : ∀ clos pm cd ctv xs, xs.length = args.length → bindArgs (kla_fn "<lambda>" q params body scope clos pm cd ctv) ⟨xs, []⟩ = pure (ns.zip xs))
  (hbody : ∀ env : Env, env.scope = scope → Ev C n env (ns.zip args ++ caps) H body H' v) : Fn C (n + 1) (.sem (lamA C.h₀ q params body scope caps m hm)) args [] H H' v := by
 refine FnC.fn fun A w R' g xs ks R B rg rx rk K => ?_
 cases rk.inv0
 have h := rg.inv
 obtain ⟨f, c, ctv, pm, clos, rfl, nf, e, hc, nd, hp, hv⟩ := h
 simp only [lamOk, Bool.and_eq_true, beq_iff_eq, Bool.not_eq_true', List.all_eq_true, bne_iff_ne, ne_eq] at hok
 obtain ⟨⟨⟨⟨⟨hkd, hco⟩, hgen⟩, hcell⟩, hloc⟩, hfree⟩ := hok
 refine kla_callFunE R.lim e rfl hco hgen rfl hc.rec ?_
 rw [show ((([] : List (Str × V)).map (·.1)).zip ([] : List Value)) = [] from rfl, hb _ _ _ _ xs rx.length]
 refine wpAny_pure (wpAny_newFunctionEnv hcell (fun z hz => hloc z.1 (map_fst_zip_sub ns xs z.1 (List.mem_map_of_mem (f := (·.1)) hz))) (fun h₁ hns hsb => ?_) hkd)
 have hk₁ : ∀ b o, w.s.heap.get? b = some o → h₁.get? b = some o := fun b o e => hsb.extBut b o (Nat.ne_of_lt (Heap.lt_size e)) (Heap.get?_push_of_some _ e)
 refine ⟨(C.lim.keeps B.stays).keeps hk₁, ?_⟩
 generalize henv : newEnv scope w.s.heap.objs.size mainGlobals clos (q ++ ".<locals>.") (some f) (.ref c) none builtinsNs = env
 have es : env.scope = scope := by rw [← henv]; rfl
 have el : env.locals = w.s.heap.objs.size := by rw [← henv]; rfl
 have ec : env.cells = clos := by rw [← henv]; rfl
 have X1 : Ext w ⟨w.ρ, w.π, { w.s with heap := h₁, toks := w.s.toks + (ns.zip xs).length }⟩ := ⟨rfl, hk₁, rfl, rfl, rfl, Nat.le_add_right _ _⟩
 have fresh : w.h.get? w.s.heap.objs.size = none := by
  cases z : w.h.get? w.s.heap.objs.size with
  | none => rfl
  | some o => exact absurd (Heap.lt_size z) (Nat.lt_irrefl _)
 have kof : ∀ x, env.kindOf x = scope.names.lookup x := fun x => by show env.scope.names.lookup x = _; rw [es]
 have F1 : FSt C ⟨w.ρ, w.π, { w.s with heap := h₁, toks := w.s.toks + (ns.zip xs).length }⟩ env (ns.zip args ++ caps) := by
  refine ⟨fun a ha => ?_, by rw [← henv]; rfl, by rw [← henv]; rfl, by rw [es]; exact hkd, ⟨_, by rw [el]; exact hns, fun x v ex => ?_⟩, by rw [el]; exact B.fresh fresh, fun p hpm => ?_, by rw [ec]; exact nd, fun x hx => ?_, fun a ha hπ => ?_⟩
  ·rcases List.mem_cons.mp ha with rfl | ha
   ·rw [el]
    cases z : C.h₀.get? w.s.heap.objs.size with
    | none => rfl
    | some o => have := B.stays _ o z; exact nomatch fresh.symm.trans this
   ·rw [ec] at ha
    obtain ⟨p, hpm, rfl⟩ := List.mem_map.mp ha
    exact (hp p hpm).2.2.1
  ·rw [List.lookup_append] at ex
   cases hz : (ns.zip args).lookup x with
   | some v' =>
    rw [hz] at ex
    have : v' = v := by simpa using ex
    subst this
    obtain ⟨y, h1, h2⟩ := zip_rev hn rx hz
    refine ⟨y, .inl ⟨?_, h1⟩, h2.ext X1⟩
    rw [kof]; exact hloc x (map_fst_zip_sub ns args x (List.mem_map_of_mem (f := (·.1)) (mem_of_lookup hz)))
   | none =>
    rw [hz] at ex
    have ex' : caps.lookup x = some v := by simpa using ex
    obtain ⟨c, y, h1, h2, h3⟩ := hv x v ex'
    obtain ⟨o, ho, hd⟩ := h2
    refine ⟨y, .inr ⟨.inr ?_, c, by rw [ec]; exact h1, o, hk₁ _ _ ho, hd⟩, h3.ext X1⟩
    rw [kof]; exact hfree x (List.mem_map_of_mem (f := (·.1)) (mem_of_lookup ex'))
  ·rw [ec] at hpm
   obtain ⟨h1, h2, h3, v₀, o, ho, hd⟩ := hp p hpm
   exact ⟨h2, v₀, o, hk₁ _ _ ho, hd⟩
  ·rw [kof] at hx
   exact absurd rfl (hcell (x, .cell) (mem_of_lookup hx))
  ·obtain ⟨_, o, ho⟩ := B.pins a hπ
   rcases List.mem_cons.mp ha with rfl | ha
   ·rw [el] at ho; exact nomatch fresh.symm.trans ho
   ·obtain ⟨p, hpm, rfl⟩ := List.mem_map.mp ha
    obtain ⟨hpm, hk⟩ := List.mem_filter.mp hpm
    rw [kof] at hk
    exact absurd rfl (hcell (p.1, .cell) (mem_of_lookup (beq_iff_eq.mp hk)))
 refine kla_codeExpr (hbody env es _ ⟨w.ρ, w.π, { w.s with heap := h₁, toks := w.s.toks + (ns.zip xs).length }⟩ _ _ R.deeper (B.ext X1) F1 fun w2 y S2 B2 F2 r2 => K w2 y (X1.step.trans S2) B2 r2)
theorem tab_code {fl : Nat} {nm : Str} {fb : FuncBody} (hH : H[t]? = some (.sem (tabA t P q))) (hcd : env.code = .ref c) (CH : CodeHd C.h₀ c P) {A : Around} {w : Wd} {Q E : Value → Shared → Prop} (B : BSt C w H)
  (K : ∀ w' c', Step [] w w' → BSt C w' H → CodeOk w' c' q → Q (.ref c') w'.s) : wpAny C.M A (functionCode env pos fl nm q params scope fb) Q E w.s := by
 obtain ⟨a, o, ha, ho, hP0, ps, rfl, tr, among⟩ := B.sem hH
 cases ha.symm.trans hP0
 cases hf : codeAmong pos ps.toList with
 | some cv =>
  obtain ⟨c', rfl, ok⟩ := among pos cv hf
  exact wpAny_functionCode_hit hcd ((CH.keeps B.stays).code ho tr) hf (K w c' (Step.refl _ _) B ok)
 | none =>
  refine wpAny_with_toks (Nat.le_refl _) (wpAny_functionCodeX hcd ((CH.keeps B.stays).code ho tr) ((CH.keeps B.stays).tab ho) hf fun c' h' tk hx hge hlt q_ hrec htb hnew htk => ?_)
  have fresh : w.h.get? c' = none := by
   cases z : w.h.get? c' with
   | none => rfl
   | some o => exact absurd (Heap.lt_size z) (Nat.not_lt.mpr hge)
  have ok : ∀ w' : Wd, w'.ρ = w.ρ → w'.h = h' → CodeOk w' c' q := fun w' e1 e2 => by
   obtain ⟨c2, o, vs, tq, ec, g1, g2, g3⟩ := hrec
   cases ec
   obtain ⟨P', _, _, ⟨o', vs', k1, k2, _⟩, _⟩ := hnew
   rw [g1] at k1; cases k1
   exact ⟨by rw [e1]; exact B.fresh fresh, o, vs, tq, by rw [e2]; exact g1, k2, g2, g3⟩
  have q1 := B.setK (s' := { w.s with heap := h', toks := tk }) (o := .sem (tabA t P q)) ha (fun b ob n e => hx b ob n e) rfl rfl htk ⟨_, htb.2⟩ (fun S => .sem htb.2 ⟨ha, _, rfl, by
    rw [show (ps ++ #[rawInt pos.line, rawInt pos.col, Value.ref c']).toList = ps.toList ++ [rawInt pos.line, rawInt pos.col, .ref c'] by simp]
    exact TriplesOk_snoc _ _ _ _ tr, fun pos' v e => by
    rw [show (ps ++ #[rawInt pos.line, rawInt pos.col, Value.ref c']).toList = ps.toList ++ [rawInt pos.line, rawInt pos.col, .ref c'] by simp] at e
    rcases codeAmong_more _ tr e with e | rfl
    ·obtain ⟨a, h1, h2⟩ := among pos' v e
     exact ⟨a, h1, h2.step .nil S⟩
    ·exact ⟨c', rfl, ok _ rfl rfl⟩⟩) (fun P' e => by cases e; exact B.tops t _ hH)
  have eH : H.set t (.sem (tabA t P q)) = H := by
   obtain ⟨hl, he⟩ := List.getElem?_eq_some_iff.mp hH
   rw [← he]; exact List.set_getElem_self hl
  rw [eH] at q1
  exact K ⟨w.ρ, w.π, _⟩ c' q1.2 q1.1 (ok _ rfl rfl)
theorem Lam.core {clos : List (Str × Addr)} {bm : Addr} {ob : Obj} (hH : H[t]? = some (.sem (tabA t P q))) (hcd : env.code = .ref c) (hq : env.qual ++ "<lambda>" = q) (CH : CodeHd C.h₀ c P)
  (b1 : C.mg "__builtins__" = some (.ref bm)) (b2 : bm ≠ builtinsNs) (b3 : C.h₀.get? bm = some ob) (b4 : ob.cls = .type "module") (b5 : ob.dict = some builtinsNs) (b6 : ob.data = .plain)
  (hdef : defaultsOf params env = ([], [])) (hcl : closureFor scope env = pure clos) {A : Around} {w : Wd} {Q E : Value → Shared → Prop} (B : BSt C w H) (F : FSt C w env σ)
  (K : ∀ w' f c' ctv pm, Step [] w w' → BSt C w' H → f ∉ w'.ρ → w'.h.get? f = some (lamObj q params body scope clos pm (.ref c') ctv) → CodeOk w' c' q → Q (.ref f) w'.s) :
  wpAny C.M A (eval (.Lambda params body scope pos) env) Q E w.s := by
 refine kla_eval hdef ?_
 rw [hq, makeFunction_eq]
 simp only [List.zip_nil_right, List.filterMap_nil, List.isEmpty_nil, if_true, pure_bind]
 unfold makeTail
 rw [hcl, F.glob]
 refine wpAny_bind (wpAny_pure ?_)
 have last : ∀ (w1 : Wd) (c' : Addr) (ctv : Value), Step [] w w1 → BSt C w1 H → CodeOk w1 c' q →
   wpAny C.M A (newObj (.type "function") (.func (kla_fn "<lambda>" q params body scope clos ((C.mg "__name__").getD .none) (.ref c') ctv))) Q E w1.s := fun w1 c' ctv S1 B1 ok => by
  refine wpAny_newObj_type ?_ (by size_fits)
  have X : Ext w1 ⟨w1.ρ, w1.π, { w1.s with heap := w1.s.heap.push (lamObj q params body scope clos ((C.mg "__name__").getD .none) (.ref c') ctv) }⟩ := Ext.push _
  refine K ⟨w1.ρ, w1.π, _⟩ w1.s.heap.objs.size c' ctv _ (S1.trans X.step) (B1.ext X) (B1.fresh ?_) (Heap.get?_push_size _ rfl) (ok.step .nil X.step)
  cases z : w1.h.get? w1.s.heap.objs.size with
  | none => rfl
  | some o => exact absurd (Heap.lt_size z) (Nat.lt_irrefl _)
 cases clos with
 | nil =>
  simp only [List.isEmpty_nil, if_true]
  refine wpAny_bind (wpAny_pure ?_)
  refine wpAny_bind (tab_code hH hcd CH B fun w1 c' S1 B1 ok => ?_)
  have hg := C.g.keeps B1.stays
  refine wpAny_bind (wpAny_builtinsFor hg b1 b2 (B1.stays _ _ b3) b4 b5 b6 ?_)
  refine wpAny_bind (wpAny_nsGet hg ?_)
  exact wpAny_bind (wpAny_pure (last w1 c' _ S1 B1 ok))
 | cons r l =>
  simp only [List.isEmpty_cons, Bool.false_eq_true, if_false]
  refine wpAny_bind (wpAny_newTextTuple ?_)
  have X0 : Ext w ⟨w.ρ, w.π, { w.s with heap := w.s.heap.push { cls := .type "tuple", data := .seq (((r :: l).mergeSort fun a b => decide (a.1.cps.toList ≤ b.1.cps.toList)).map (Value.ref ·.2)).toArray } }⟩ := Ext.push _
  refine wpAny_bind (tab_code hH hcd CH (B.ext X0) fun w1 c' S1 B1 ok => ?_)
  have hg := C.g.keeps B1.stays
  refine wpAny_bind (wpAny_builtinsFor hg b1 b2 (B1.stays _ _ b3) b4 b5 b6 ?_)
  refine wpAny_bind (wpAny_nsGet hg ?_)
  exact wpAny_bind (wpAny_pure (last w1 c' _ (X0.step.trans S1) B1 ok))
theorem Ev.lam0 {bm : Addr} {ob : Obj} (hH : H[t]? = some (.sem (tabA t P q))) (hcd : env.code = .ref c) (hq : env.qual ++ "<lambda>" = q) (CH : CodeHd C.h₀ c P)
  (b1 : C.mg "__builtins__" = some (.ref bm)) (b2 : bm ≠ builtinsNs) (b3 : C.h₀.get? bm = some ob) (b4 : ob.cls = .type "module") (b5 : ob.dict = some builtinsNs) (b6 : ob.data = .plain)
  (hdef : defaultsOf params env = ([], [])) (hcl : closureFor scope env = pure []) : Ev C n env σ H (.Lambda params body scope pos) H (.sem (lamA C.h₀ q params body scope [] 0 rfl)) := by
 intro A w Q E R B F K
 refine Lam.core hH hcd hq CH b1 b2 b3 b4 b5 b6 hdef hcl B F fun w' f c' ctv pm S B' nf e ok => K w' _ S B' (F.step0 S) (.sem ⟨f, c', ctv, pm, [], rfl, nf, e, ok, List.nodup_nil, (fun q_ h => nomatch h), fun q_ q_ h => nomatch h⟩)
end
end
section
section
variable {n m d : Nat} {k : Nat → Int} {p : Array Nat} {a b c : Nat}
variable {s q : Nat}
end
end
section
noncomputable def Col (C : Ct) (n : Nat) (H : List HObj) (u : V) (l : List V) : Prop :=
 ∀ (A : Around) (w : Wd) (Q : List Value → Shared → Prop) (E : Value → Shared → Prop) (x : Value), Room A n → BSt C w H → VRel w u x → (∀ w' vs, Step [] w w' → BSt C w' H → VRels w' l vs → Q vs w'.s) → wpAny C.M A (collect x) Q E w.s
section
variable {C : Ct} {n : Nat} {H : List HObj} {f u : V} {l ks l' : List V} {κ : SortKind} {rk : Nat → Int}
theorem VRels.intsAre {w : Wd} : ∀ {ns : List Int} {vs : List Value}, VRels w (ns.map .int) vs → IntsAre vs ns
 | [], _, .nil => .nil
 | n :: ns, _, .cons a b => by
  obtain ⟨t, rfl⟩ := a.inv; exact .cons n t b.intsAre
end
end
section
noncomputable def intV : Value → Option Int
 | .int i _ => some i
 | _ => none
theorem intV_inv {v : Value} {i : Int} (h : intV v = some i) : ∃ t, v = .int i t := by
 cases v with
 | int j t => obtain rfl := Option.some.inj h; exact ⟨t, rfl⟩
 | _ => cases h
noncomputable abbrev tagK (p : Int × Value) : Int × Option Int := (p.1, intV p.2)
noncomputable abbrev tagI (p : Int × Int) : Int × Option Int := (p.1, some p.2)
noncomputable def dictA (C : Ct) (es : List (Int × Int)) : OAsrt where
 P _ o := ∃ kvs : List (Int × Value), o.IsDictOf (intKind C.prog C.w) kvs ∧ kvs.map tagK = es.map tagI
 mono _ _ h := h
 hard h hd := by
  obtain ⟨kvs, ⟨es', ep, _, h, _⟩, _⟩ := h
  exact nomatch h.symm.trans hd
 top := 0
 low _ h := h
 loose h := h
theorem VRels.of_get {w : Wd} : ∀ {l : List V} {xs : List Value}, xs.length = l.length → (∀ (i : Nat) v x, l[i]? = some v → xs[i]? = some x → VRel w v x) → VRels w l xs
 | [], [], _, _ => .nil
 | v :: l, x :: xs, h, g => .cons (g 0 v x rfl rfl) (VRels.of_get (Nat.succ.inj h) fun i => g (i + 1))
theorem ints_rel {w : Wd} {xs : List Value} {ns : List Int} (h : IntsAre xs ns) : VRels w (ns.map .int) xs := by
 induction h with
 | nil => exact .nil
 | cons n t _ ih => exact .cons (.int _ _) ih
section
variable {C : Ct} {n : Nat} {env : Env} {σ σ' σ1 : Loc} {H H' H0 H1 H2 H3 : List HObj} {pos p pos' : Pos} {j : Nat} {x : Str} {v v1 v2 : V} {e e1 e2 : PySem.Expr} {k a : Int} {es : List (Int × Int)}
theorem Ev.dict0 : Ev C n env σ H (.Dict [] [] pos) (H ++ [.sem (dictA C [])]) (.ref H.length) := by
 intro A w Q E R B F K
 refine wpAny_Dict_empty ?_
 have hd := Heap.DictOf.new (knd := intKind C.prog C.w) w.s.heap
 obtain ⟨o, ho, hi⟩ := Heap.dictOf_iff.mp hd
 obtain ⟨B1, S1⟩ := B.track (s' := { w.s with heap := w.s.heap.push { cls := .type "dict", data := .dict #[] } }) (a := w.s.heap.objs.size) (o := .sem (dictA C [])) (fun b ob e => Heap.get?_push_of_some _ e) rfl rfl (Nat.le_refl _) (size_none _) B.size3
  (fun q_ => .sem ho ⟨[], hi, rfl⟩) (fun P e => by cases e; exact Nat.zero_le _)
 exact K ⟨w.ρ ++ [w.s.heap.objs.size], w.π, _⟩ _ S1 B1 (F.step0 S1) (.ref (by rw [← B.len]; simp))
theorem dict_at {w : Wd} (B : BSt C w H) (hj : H[j]? = some (.sem (dictA C es))) {d : Addr} (hd : w.ρ[j]? = some d) : ∃ kvs : List (Int × Value), w.s.heap.DictOf (intKind C.prog C.w) d kvs ∧ kvs.map tagK = es.map tagI := by
 obtain ⟨d', o, hd', ho, kvs, h1, h2⟩ := B.sem hj
 obtain rfl := Option.some.inj (hd.symm.trans hd')
 exact ⟨kvs, Heap.dictOf_iff.mpr ⟨o, ho, h1⟩, h2⟩
theorem find_tag : ∀ {kvs : List (Int × Value)} {es : List (Int × Int)}, kvs.map tagK = es.map tagI → es.lookup k = some a → ∃ t, valueAt kvs k = some (.int a t)
 | kvs, [], _, h => by cases h
 | [], q :: es, h, _ => by cases h
 | (i, v) :: kvs, (i', a') :: es, h, g => by
  have h1 := (List.cons.inj h).1
  have e1 : i = i' := congrArg Prod.fst h1
  have e2 : intV v = some a' := congrArg Prod.snd h1
  subst e1
  rw [List.lookup_cons] at g
  by_cases q : k = i
  ·rw [beq_iff_eq.mpr q] at g
   obtain rfl := Option.some.inj g
   obtain ⟨t, rfl⟩ := intV_inv e2
   exact ⟨t, by unfold valueAt; rw [List.find?_cons_of_pos (by exact decide_eq_true q.symm)]; rfl⟩
  ·rw [beq_eq_false_iff_ne.mpr q] at g
   obtain ⟨t, r⟩ := find_tag (List.cons.inj h).2 g
   refine ⟨t, ?_⟩
   unfold valueAt
   rw [List.find?_cons_of_neg (by simpa using fun z => q z.symm)]; exact r
theorem Itm.dictI (hj : H[j]? = some (.sem (dictA C es))) (hf : es.lookup k = some a) (hp : Plain1 e) : Itm C n e (.ref j) (.int k) H (.int a) := by
 intro A w Q E x y value R B rx ry K
 obtain ⟨d, rfl, hd⟩ := rx.inv; obtain ⟨_, rfl⟩ := ry.inv
 obtain ⟨kvs, hm, ht⟩ := dict_at B hj hd
 obtain ⟨t, hv⟩ := find_tag ht hf
 exact tail_any hm.typeIs slot_dict_getitem.lookup (wpAny_getItem_of (intKind_is _ _ _ _) hm.mapOf hv (K ⟨w.ρ, w.π, _⟩ _ Ext.toks.step (B.ext Ext.toks) (.int _ _))) (hp _ _)
theorem none_tag : ∀ {kvs : List (Int × Value)} {es : List (Int × Int)}, kvs.map tagK = es.map tagI → es.lookup k = none → (kvs.any fun kv => kv.1 = k) = false
 | [], [], _, _ => rfl
 | (i, v) :: kvs, (i', a') :: es, h, g => by
  have e1 : i = i' := congrArg Prod.fst (List.cons.inj h).1
  subst e1
  rw [List.lookup_cons] at g
  by_cases q : k = i
  ·rw [beq_iff_eq.mpr q] at g; cases g
  ·rw [beq_eq_false_iff_ne.mpr q] at g
   rw [List.any_cons, none_tag (List.cons.inj h).2 g, Bool.or_false]
   exact decide_eq_false fun z => q z.symm
theorem Es.dictI (hv : Ev C n env σ H e H1 (.int a)) (ho : Ev C n env σ H1 e1 H2 (.ref j)) (hi : Ev C n env σ H2 e2 H3 (.int k)) (hj : H3[j]? = some (.sem (dictA C es))) (hn : es.lookup k = none) (hl : es.length ≤ 1000)
  (hs : swapsWith e (some (.Subscript e1 e2 pos')) pos.line env = pure false) : Es C n env σ H (.Assign [.Subscript e1 e2 pos'] e pos) (.next σ (H3.set j (.sem (dictA C (es ++ [(k, a)]))))) := by
 intro A w Q E R B F K
 refine wpAny_Assign_Subscript (hv A w _ E R B F fun w1 y S1 B1 F1 r1 => ho A w1 _ E R B1 F1 fun w2 dv S2 B2 F2 r2 => hi A w2 _ E R B2 F2 fun w3 kv S3 B3 F3 r3 => ?_) hs
 obtain ⟨t, rfl⟩ := r1.inv
 obtain ⟨u, rfl⟩ := r3.inv
 obtain ⟨d, rfl, hd⟩ := (r2.step0 S3).inv
 obtain ⟨kvs, hm, ht⟩ := dict_at B3 hj hd
 have hle : kvs.length ≤ sizeLine := by
  have := congrArg List.length ht
  rw [List.length_map, List.length_map] at this
  rw [this]; exact Nat.le_trans hl (by decide)
 refine wpAny_setItem_pairs (intKind_is _ _ _ _) hm (fun h' hm' hs' => ?_) hle
 obtain ⟨o, ho', hi'⟩ := Heap.dictOf_iff.mp hm'
 have hst : (stored kvs k (.int a t)).map tagK = (es ++ [(k, a)]).map tagI := by
  unfold stored
  rw [if_neg (by rw [none_tag ht hn]; decide), List.map_append, ht, List.map_append]; rfl
 obtain ⟨B4, S4⟩ := B3.set (s' := { w3.s with heap := h', toks := w3.s.toks + 1 }) (o := .sem (dictA C (es ++ [(k, a)]))) hd hs' rfl rfl (Nat.le_succ _) ⟨o, ho'⟩ (fun q_ => .sem ho' ⟨_, hi', hst⟩) (fun P e => by cases e; exact Nat.zero_le _)
 exact K ⟨w3.ρ, w3.π, _⟩ _ (F.wide (S1.trans (S2.trans (S3.trans S4)))) (.next B4 (F3.step0 S4))
theorem Col.dict (hj : H[j]? = some (.sem (dictA C es))) (hl : es.length ≤ 1000) : Col C n H (.ref j) ((es.map (·.1)).map V.int) := by
 intro A w Q E x R B rx K
 obtain ⟨d, rfl, hd⟩ := rx.inv
 obtain ⟨kvs, hm, ht⟩ := dict_at B hj hd
 obtain ⟨ep, ha⟩ := hm.dictAt
 have hlen : kvs.length = es.length := by
  have := congrArg List.length ht
  rwa [List.length_map, List.length_map] at this
 refine wpAny_with_toks (Nat.le_refl _) (kdu_collect (kdl_dict (sysModules_low B hd)) R.hd ha (by rw [hlen]; exact Nat.le_trans hl (by decide)) fun h' tk acc hk hacc htk => ?_)
 have X : Ext w ⟨w.ρ, w.π, { w.s with heap := h', toks := tk }⟩ := ⟨rfl, hk, rfl, rfl, rfl, htk⟩
 refine K ⟨w.ρ, w.π, _⟩ _ X.step (B.ext X) (VRels.of_get ?_ fun i v y e1 e2 => ?_)
 ·rw [Array.length_toList, hacc.1, hlen, List.length_map, List.length_map]
 ·obtain ⟨q, z, h1, h2⟩ := hacc.2 i y (by rw [← Array.getElem?_toList]; exact e2)
  obtain ⟨t, rfl⟩ := Value.isInt_shape h2
  have g := congrArg (·[i]?) ht
  rw [List.getElem?_map, List.getElem?_map, h1] at g
  rw [List.map_map, List.getElem?_map] at e1
  cases q' : es[i]? with
  | none => rw [q'] at e1; cases e1
  | some p =>
   rw [q'] at g e1
   have : q = p.1 := congrArg Prod.fst (Option.some.inj g)
   obtain rfl := Option.some.inj e1
   subst this
   exact .int _ _
theorem Fn.sortedI {u : V} {ns ns' : List Int} (hcol : Col C (n + 1) H u (ns.map .int)) (hn : ns.length < 64) (hout : ∀ l : List Int, l.Perm ns → l.Pairwise (· ≤ ·) → l = ns') : Fn C (n + 2) (.val (.builtin "sorted")) [u] [] H H (.lst (ns'.map .int)) := by
 intro A w Q E g xs zs R B rg rx rz K
 obtain ⟨_, rfl⟩ := rg.inv
 obtain ⟨x, rfl, r1⟩ := rx.inv1
 obtain rfl := rz.inv0
 refine Calls.call_function_entry kind_sorted plain_sorted entry_sorted (args_sorted1 _) ?_
 unfold Builtin.«sorted»
 refine wpAny_bind (m := checkCount "sorted" 1 1 _) (wpAny_pure ?_)
 refine wpAny_bind (hcol A.in1 w _ _ x R.in1 B r1 fun w1 vs S1 B1 rv => ?_)
 have hlen := rv.length
 rw [List.length_map] at hlen
 refine wpAny_bind (wpAny_newList ?_ (by rw [sizeLine_eq]; lia))
 have hD : (w1.s.heap.push (seqObj "list" vs.toArray 0)).get? w1.s.heap.objs.size = some (seqObj "list" vs.toArray 0) := Heap.get?_push_size _ rfl
 refine wpAny_bind (wpAny_holding (wpAny_call_entry slot_list_sort ⟨_, hD, rfl⟩ entry_list_sort (list_sort_tree hD rv.intsAre (by rw [hlen]; exact hn) fun out l a1 a2 a3 => ⟨_, rfl, ?_⟩) (args_list_sort _)))
 obtain rfl := hout l a2 a3
 refine wpAny_pure ⟨_, rfl, ?_⟩
 obtain ⟨c, hc⟩ := sortedHeap_at (vs := vs) (out := out) hD
 have hk : ∀ b ob, w1.h.get? b = some ob → (sortedHeap (w1.s.heap.push (seqObj "list" vs.toArray 0)) w1.s.heap.objs.size vs out).get? b = some ob := fun b ob e => by
  have hlt := Heap.lt_size e
  rw [sortedHeap_old (Nat.ne_of_lt hlt) (by rw [size_push']; exact Nat.lt_succ_of_lt hlt)]
  exact Heap.get?_push_of_some _ e
 have X : Ext w1 ⟨w1.ρ, w1.π, { w1.s with heap := sortedHeap (w1.s.heap.push (seqObj "list" vs.toArray 0)) w1.s.heap.objs.size vs out }⟩ := ⟨rfl, hk, rfl, rfl, rfl, Nat.le_refl _⟩
 refine K ⟨w1.ρ, w1.π, _⟩ _ (S1.trans X.step) (B1.ext X) (.lst (vs := out.toList) (n := c) ?_ ?_ (ints_rel a1))
 ·exact hc
 ·exact fun m => B1.fresh (size_none _) m
end
end
section
section
variable {C : Ct} {n : Nat} {env : Env} {σ σ' σ1 : Loc} {H H' H0 H1 H2 H3 : List HObj} {pos p pos' tpos : Pos} {k : Nat} {x : Str} {u v v1 v2 : V} {e e1 e2 : PySem.Expr} {l l' : List V}
theorem Fn.pop {i : Nat} (hH : H[i]? = some (.list (l ++ [v]))) (hlen : l.length < sizeLine) : Fn C n (.val (.builtin "list.pop")) [.ref i] [] H (H.set i (.list l)) v := by
 intro A w Q E g xs ks R B rg rx rk K
 obtain ⟨_, rfl⟩ := rg.inv
 obtain ⟨z, rfl, r1⟩ := rx.inv1
 obtain rfl := rk.inv0
 obtain ⟨D, rfl, hD⟩ := r1.inv
 obtain ⟨a, vs, m, h1, h2, h3, d⟩ := B.get hH
 obtain rfl := Option.some.inj (hD.symm.trans h1)
 have hl := h3.length
 rw [List.length_append, List.length_singleton] at hl
 obtain ⟨y, hy, ry⟩ := h3.get (i := l.length) (v := v) (by rw [List.getElem?_append_right (Nat.le_refl _), Nat.sub_self]; rfl)
 have et : vs = vs.take l.length ++ [y] := by
  have := List.take_append_drop l.length vs
  rw [List.drop_eq_getElem_cons (by rw [hl]; exact Nat.lt_succ_self _), List.drop_of_length_le (by rw [hl]; exact Nat.le_refl _)] at this
  rw [List.getElem?_eq_getElem (by rw [hl]; exact Nat.lt_succ_self _)] at hy
  rw [Option.some.inj hy] at this; exact this.symm
 refine call_meets F.slot_list_pop ⟨_, h2, rfl⟩ F.entry_list_pop (F.args_list_pop_1 _) (MeetsSeq.list_pop_last D vs.toArray m y (by rw [List.size_toArray, hl]; simpa using hy) (by rw [List.size_toArray, hl]; exact hlen)) ⟨h2, ?_⟩
 obtain ⟨c, hc⟩ : ∃ c, (w.s.heap.update D (Obj.mapSeq fun xs => xs.eraseIdxIfInBounds (vs.toArray.size - 1))).get? D = some (seqObj "list" (vs.toArray.eraseIdxIfInBounds (vs.toArray.size - 1)) c) := ⟨_, get?_update_seq h2 _⟩
 have ee : vs.toArray.eraseIdxIfInBounds (vs.toArray.size - 1) = (vs.take l.length).toArray := by
  rw [List.size_toArray, hl, Nat.add_sub_cancel, Array.eraseIdxIfInBounds, dif_pos (by rw [List.size_toArray, hl]; exact Nat.lt_succ_self _)]
  apply Array.toList_inj.mp
  rw [Array.toList_eraseIdx, List.toList_toArray, List.toList_toArray, List.eraseIdx_eq_take_drop_succ, List.drop_of_length_le (by rw [hl]; exact Nat.le_refl _), List.append_nil]
 rw [ee] at hc
 have rt : VRels w l (vs.take l.length) := by
  have := h3.take l.length
  rwa [List.take_append_of_le_length (Nat.le_refl _), List.take_length] at this
 rw [datL_append] at d
 obtain ⟨B', S⟩ := B.set (s' := { w.s with heap := w.s.heap.update D (Obj.mapSeq fun xs => xs.eraseIdxIfInBounds (vs.toArray.size - 1)) }) (o := .list l) hD (Heap.SameBut.update _ _ _) rfl rfl (Nat.le_refl _) ⟨_, hc⟩ (fun S => .list hc (rt.step0 S) (Bool.and_eq_true_iff.mp d).1) (fun q_ e => by cases e)
 exact K ⟨w.ρ, w.π, _⟩ y S B' (ry.step0 S)
theorem Mth.pop {i : Nat} (hH : H[i]? = some (.list (l ++ [v]))) (hlen : l.length < sizeLine) : Mth C n "pop" (.ref i) [] H (H.set i (.list l)) v "list" "list.pop" := ⟨F.plainAttrs_list, F.slot_list_pop, F.type_list_pop, Fn.pop hH hlen⟩
theorem Tru.lst (h : Lsy H u l) (hl : l.length < 2 ^ 40) : Tru C n u H (!l.isEmpty) := by
 intro A w Q E y R B rx K
 obtain ⟨q, vs, m, rfl, ho, r⟩ := h.at B rx
 have hs : vs.toArray.size = l.length := by rw [List.size_toArray, r.length]
 have he : (!vs.toArray.isEmpty) = !l.isEmpty := by
  have := r.length
  cases l <;> cases vs <;> first | rfl | cases this
 refine wpAny_truthy_list (isList_of ho) (by rw [hs]; omega) ?_
 rw [he]
 exact K ⟨w.ρ, w.π, _⟩ (Ext.toksT (t := w.s.toks + 1 + 1) (by lia)).step (B.ext (Ext.toksT (t := w.s.toks + 1 + 1) (by lia)))
theorem Bin.addLT (h1 : Lsy H u l) (h2 : Lsy H v l') (hd : datL l = true) (hd' : datL l' = true) (hsz : l.length + l'.length ≤ sizeLine) : Bin C n .Add u v H (H ++ [.list (l ++ l')]) (.ref H.length) := by
 intro A w Q E x y R B rx ry K
 obtain ⟨q, vs, m, rfl, e1, r1⟩ := h1.isL B rx
 obtain ⟨q2, vs2, m2, rfl, e2, r2⟩ := h2.isL B ry
 refine P.add_list e1 e2 ?_ (by simp [r1.length, r2.length]; exact hsz)
 have ho : (w.s.heap.push { cls := .type "list", data := .seq (vs.toArray ++ vs2.toArray) }).get? w.s.heap.objs.size = some (lstObj (vs ++ vs2) 0) := by
  rw [Heap.get?_push_size _ rfl]; simp [lstObj]
 obtain ⟨B1, S1⟩ := B.track (s' := { w.s with heap := w.s.heap.push { cls := .type "list", data := .seq (vs.toArray ++ vs2.toArray) } }) (a := w.s.heap.objs.size) (o := .list (l ++ l')) (fun b ob e => Heap.get?_push_of_some _ e) rfl rfl (Nat.le_refl _) (size_none _) B.size3
  (fun S => .list ho ((r1.append r2).step0 S) (by rw [datL_append, hd, hd']; rfl)) (fun P e => by cases e)
 exact K ⟨w.ρ ++ [w.s.heap.objs.size], w.π, _⟩ _ S1 B1 (.ref (by rw [← B.len]; simp))
theorem draw_list {it q : Addr} {items : Array Value} {A : Around} {E : Value → Shared → Prop} (hne : q ≠ it) : ∀ (m i : Nat) (s : Shared) (Q : List Value → Shared → Prop), s.heap.IsListIter it q i → s.heap.IsList q items → i + m ≤ items.size →
  (∀ h', h'.IsListIter it q (i + m) → Heap.SameBut it s.heap h' → Q ((items.toList.drop i).take m) { s with heap := h' }) → wpAny C.M A (draw (.ref it) m) Q E s
 | 0, i, s, Q, hit, _, _, hQ => wpAny_pure (by simpa using hQ s.heap hit (Heap.SameBut.refl ..))
 | m + 1, i, s, Q, hit, ht, hle, hQ => by
  have hlt : i < items.size := by omega
  show wpAny _ _ (pyNext (.ref it) >>= _) Q E s
  refine wpAny_bind (wpAny_pyNext_list_item hit ht (x := items[i]) (by simp [hlt]) fun h₁ hit₁ hs₁ => ?_)
  refine wpAny_bind (wpAny_holding (draw_list hne m (i + 1) _ _ hit₁ (ht.extBut hs₁.extBut hne) (by omega) fun h₂ hit₂ hs₂ => wpAny_pure ?_))
  have hd : items.toList.drop i = items[i] :: items.toList.drop (i + 1) := by simp [List.drop_eq_getElem_cons, hlt]
  have := hQ h₂ (by rw [show i + (m + 1) = i + 1 + m by omega]; exact hit₂) (hs₁.trans hs₂)
  rw [hd, List.take_succ_cons] at this
  exact this
theorem unpack_list {q : Addr} {items : Array Value} {A : Around} {s : Shared} {Q : List Value → Shared → Prop} {E : Value → Shared → Prop} (hh : A.handled = none) (ht : s.heap.IsList q items)
  (hQ : ∀ h', Heap.ExtBut s.heap.objs.size s.heap h' → Q items.toList { s with heap := h' }) : wpAny C.M A (unpackItems (.ref q) items.size none) Q E s := by
 have hlt : q ≠ s.heap.objs.size := by obtain ⟨o, ho, _⟩ := ht; exact Nat.ne_of_lt (Heap.lt_size ho)
 have hp : ∀ o, (s.heap.push o).IsList q items := fun o => by obtain ⟨ob, ho, r⟩ := ht; exact ⟨ob, Heap.get?_push_of_some _ ho, r⟩
 unfold unpackItems
 refine wpAny_bind ?_
 unfold notIterableAtAll
 refine wpAny_bind (wpAny_specialOf ht.typeIs slot_list_iter.lookup ?_)
 refine wpAny_pure ?_
 simp only [Bool.false_eq_true, if_false]
 refine wpAny_bind (wpAny_holding (wpAny_pyIter_list ht ?_))
 refine wpAny_bind (wpAny_holding (draw_list hlt items.size 0 _ _ ⟨_, Heap.get?_push_size _ rfl, rfl, rfl⟩ (hp _) (by omega) fun h₁ hit₁ hs₁ => ?_))
 have hall : List.take items.size (List.drop 0 items.toList) = items.toList := by
  rw [List.drop_zero]; exact List.take_of_length_le (by simp)
 rw [hall]
 rw [if_neg (by simp)]
 have ht₁ : h₁.IsList q items := (hp _).extBut hs₁.extBut hlt
 refine wpAny_bind (wpAny_holding (wpAny_pyNext_list_end hh hit₁ ht₁ (by simp) fun h₂ he₂ => ?_))
 simp only [Option.isSome_none, Bool.false_eq_true, if_false]
 exact wpAny_pure (hQ h₂ fun b o hb e => he₂ b o hb (hs₁.extBut b o hb (Heap.get?_push_of_some _ e)))
theorem Ast.lst {X : List Addr} {ts : List PySem.Expr} (hl : Lsy H u l) (h : AsL C n env X ts l σ H σ') (hX : ∀ {w : Wd} {σ : Loc}, FSt C w env σ → NonSeq w X) : Ast C n env X (.Tuple ts k tpos) u σ H σ' := by
 intro A w y Q E R B F r K
 obtain ⟨h1, h2, h3⟩ := h
 obtain ⟨q, ys, m, rfl, ho, rv⟩ := hl.at B r
 rw [arm_assign_Tuple]
 refine wpAny_bind (wpAny_standAt ?_)
 unfold unpack
 rw [show (assignEach ts env).length = ys.toArray.size from by rw [h1, List.size_toArray, rv.length], h2]
 refine wpAny_bind (wpAny_holding (unpack_list R.hd (isList_of ho) fun h' hs => ?_))
 have X1 : Ext w ⟨w.ρ, w.π, { w.s with heap := h' }⟩ := ⟨rfl, fun b o e => hs b o (Nat.ne_of_lt (Heap.lt_size e)) e, rfl, rfl, rfl, Nat.le_refl _⟩
 refine h3 A ⟨w.ρ, w.π, { w.s with heap := h' }⟩ _ _ _ R (B.ext X1) (F.ext X1) hX (by simpa using rv.ext X1) fun w2 S2 B2 F2 => ?_
 exact K w2 (X1.step.trans S2) B2 F2
theorem Es.assignU {ts : List PySem.Expr} (h : Ev C n env σ H e H1 u) (hl : Lsy H1 u l) (ha : AsL C n env (fw env) ts l σ H1 σ') (hs : swapsWithSole [.Tuple ts k tpos] e pos.line env = pure false) (hw : swappedStores [.Tuple ts k tpos] e env = pure none) :
  Es C n env σ H (.Assign [.Tuple ts k tpos] e pos) (.next σ' H1) := by
 intro A w Q E R B F K
 refine Assign_Tuple (h A w _ E R B F fun w1 y1 S1 B1 F1 r1 => ?_) hs hw
 exact Ast.lst hl ha fw_nonSeq A w1 y1 _ _ R B1 F1 r1 fun w2 S2 B2 F2 => K w2 _ (F.swide S1 S2) (.next B2 F2)
end
end
theorem Wh.half {C : Ct} {n : Nat} {env : Env} {H : List HObj} {test : PySem.Expr} {body : List PySem.Stmt} (S : Nat → Nat → Loc) (rt : Nat → Bool) {lo hi r : Nat} (ht : ∀ a b, Tst C n env (S a b) H test H (decide ((a : Int) < b))) (h1 : ∀ i, lo ≤ i → i < r → rt i = true) (h2 : ∀ i, r ≤ i → i < hi → rt i = false)
  (go : ∀ a b m, (a + b) / 2 = m → lo ≤ m → m < hi → (rt m = true → ∃ σ1, Ex C n env (S a b) H body (.next σ1 H) ∧ Subs (S (m + 1) b) σ1) ∧ (rt m = false → ∃ σ1, Ex C n env (S a b) H body (.next σ1 H) ∧ Subs (S a m) σ1)) (hr1 : lo ≤ r) (hr2 : r ≤ hi) :
  Wh C n env test body (hi - lo) (S lo hi) H (.next (S r r) H) := by
 refine Wh.bis S (lo0 := lo) (hi0 := hi) ht (fun a b hab q1 q2 q3 q4 => ?_) (hi - lo) lo hi (Nat.le_refl _) (Nat.le_refl _) (Nat.le_refl _) hr1 hr2
 have m1 : a ≤ (a + b) / 2 := by lia
 have m2 : (a + b) / 2 < b := by lia
 have m3 : b - ((a + b) / 2 + 1) < b - a := by omega
 have m4 : (a + b) / 2 - a < b - a := by omega
 have g := go a b _ rfl (Nat.le_trans q1 m1) (Nat.lt_of_lt_of_le m2 q2)
 rcases Nat.lt_or_ge ((a + b) / 2) r with z | z
 ·obtain ⟨σ1, e1, e2⟩ := g.1 (h1 _ (Nat.le_trans q1 m1) z)
  exact ⟨σ1, _, b, e1, e2, Nat.le_succ_of_le m1, Nat.le_refl _, z, q4, m3⟩
 ·obtain ⟨σ1, e1, e2⟩ := g.2 (h2 _ z (Nat.lt_of_lt_of_le m2 q2))
  exact ⟨σ1, a, _, e1, e2, Nat.le_refl _, Nat.le_of_lt m2, q3, z, m4⟩
theorem not_t {b : Bool} (h : (!b) = true) : b = false := by cases b <;> first | rfl | cases h
theorem not_f {b : Bool} (h : (!b) = false) : b = true := by cases b <;> first | rfl | cases h
theorem lt_zero {a : Nat} : decide ((a : Int) < 0) = false := decide_eq_false (by lia)
theorem noneI {a : Int} : ∀ (w : Wd) y, VRel w (.int a) y → (y == Value.none) = false := fun q_ q_ r => by obtain ⟨_, rfl⟩ := r.inv; rfl
theorem noneN : ∀ (w : Wd) y, VRel w V.none y → (y == Value.none) = true := fun q_ q_ r => by obtain rfl := r.inv; rfl
theorem at_nat {l : List V} {m : Nat} (h : m < l.length) : ∃ v, l[m]? = some v ∧ l[((m : Nat) : Int).toNat]? = some v := ⟨_, List.getElem?_eq_getElem h, List.getElem?_eq_getElem h⟩
theorem le_p63 {l : List V} (h : l.length < 2 ^ 40) {m : Nat} (k : m < l.length) : (m : Int) < 2 ^ 63 := by omega
noncomputable def insTok (P : Params) : Tok := match (hd02.heap_39 P).lookup 32 with
 | some ⟨_, _, .seq vs _, _⟩ => (match vs.toList with | .int _ t :: _ => t | _ => 0)
 | _ => 0
noncomputable def tokAt (P : Params) (a : Addr) : Tok := match (hd02.heap_39 P).lookup a with
 | some ⟨_, _, .seq vs _, _⟩ => (match vs.toList with | .int _ t :: _ => t | _ => 0)
 | _ => 0
theorem bind4d {C : Ct} {fd : FuncData} {ns : List Str} {u v w z : V} (h : ∀ a b d e, Looks C.M C.h₀ (bindArgs fd ⟨[a, b, d, e], []⟩) (ns.zip [a, b, d, e, .none])) : Binds C fd [u, v, w, z] [] ns [u, v, w, z, .none] := fun q_ xs ks rx rk => by
 obtain ⟨a, b, d, e, rfl, _⟩ := rx.inv4
 obtain rfl := rk.inv0
 exact ⟨[a, b, d, e, .none], rx.append (.cons .none .nil), h a b d e⟩
theorem fn_bisR (c : C1) (H : List HObj) {n lo hi r : Nat} {A X key : V} {l : List V} {lt : Nat → Bool} (hl : Lsy H A l) (hlen : l.length < 2 ^ 40) (hk : Kp c.ct key) (hkn : ∀ (w : Wd) x, VRel w key x → (x == Value.none) = false) (hhi : hi ≤ l.length) (hr1 : lo ≤ r) (hr2 : r ≤ hi)
  (ask : ∀ i v, l[i]? = some v → lo ≤ i → i < hi → ∃ kv, Fn c.ct n key [v] [] H H kv ∧ Cmp c.ct n .Lt X kv H (lt i)) (h1 : ∀ i, lo ≤ i → i < r → lt i = false) (h2 : ∀ i, r ≤ i → i < hi → lt i = true) : Fn c.ct (n + 1) (.val (.ref 49)) [A, X, .int lo, .int hi] [("key", key)] H H (.int r) := by
 refine' fnOf (ns := ["a", "x", "lo", "hi", "key"]) (vs := [A, X, .int lo, .int hi, key]) (o := .ret (.int r) H) ?ho ?hb ?hst ?hcd ?hns ?hnd ?hbind ?hbody ?hfin
 walk_at "t_of"
 case hbind => exact bind41 fun q_ q_ q_ q_ q_ => Looks.of_peek c.X (by kernel_rfl)
 case hbody =>
  intro env hS; dsimp only at hS
  exact (Ex.cons (Es.ifFb (Tst.cmp (Ev.loc rfl) Ev.int Cmp.ltI) lt_zero Ex.nil)
 (Ex.cons (Es.ifFb (Tst.cmp (Ev.loc rfl) Ev.none (Cmp.isNone noneI)) (by rfl) Ex.nil)
 (Ex.cons (Es.ifFb (Tst.cmp (Ev.loc rfl) Ev.none (Cmp.isNone (b := false) hkn)) (by rfl) (Ex.one (Es.while (Wh.weak (subs_cons rfl (subs_cons rfl (subs_cons rfl (subs_cons rfl (subs_cons rfl subs_nil))))) (Wh.half (fun a b => [("lo", .int (a : Int)), ("hi", .int (b : Int)), ("a", A), ("x", X), ("key", key)]) (fun i => !lt i) (fun a b => (Tst.cmp (Ev.loc rfl) (Ev.loc rfl) Cmp.ltI)) (fun i a b => by show (!lt i) = true; rw [h1 i a b]; rfl) (fun i a b => by show (!lt i) = false; rw [h2 i a b]; rfl) (fun a b m hm m1 m2 => by
   have mlt : m < l.length := Nat.lt_of_lt_of_le m2 hhi
   obtain ⟨v, hv1, hv2⟩ := at_nat mlt
   obtain ⟨kv, hf, hc⟩ := ask m v hv1 m1 m2
   refine ⟨fun q => ?_, fun q => ?_⟩
   ·have q := not_t q
    exact ⟨_, (Ex.cons (Es.assign (Ev.bin (Ev.bin (Ev.loc rfl) (Ev.loc rfl) Bin.addInt) Ev.int (Bin.half hm)) (il hS rfl) rfl)
 (Ex.one (Es.ifFb (Tst.cmp (Ev.loc rfl) (Ev.call (Ev.loc rfl) (EvA.args (EvL.cons (Ev.sub (Ev.loc rfl) (Ev.loc rfl) (Itm.lst hl (Int.natCast_nonneg _) (le_p63 hlen mlt) hv2 (fun q_ q_ => rfl))) EvL.nil)) hf hk) hc) q (Ex.one (Es.assign (Ev.bin (Ev.loc rfl) Ev.int (Bin.addE (r := ((m + 1 : Nat) : Int)) (by rfl))) (il hS rfl) rfl))))), (subs_cons rfl (subs_cons rfl (subs_cons rfl (subs_cons rfl (subs_cons rfl subs_nil)))))⟩
   ·have q := not_f q
    exact ⟨_, (Ex.cons (Es.assign (Ev.bin (Ev.bin (Ev.loc rfl) (Ev.loc rfl) Bin.addInt) Ev.int (Bin.half hm)) (il hS rfl) rfl)
 (Ex.one (Es.ifTb (Tst.cmp (Ev.loc rfl) (Ev.call (Ev.loc rfl) (EvA.args (EvL.cons (Ev.sub (Ev.loc rfl) (Ev.loc rfl) (Itm.lst hl (Int.natCast_nonneg _) (le_p63 hlen mlt) hv2 (fun q_ q_ => rfl))) EvL.nil)) hf hk) hc) q (Ex.one (Es.assign (Ev.loc rfl) (il hS rfl) rfl))))), (subs_cons rfl (subs_cons rfl (subs_cons rfl (subs_cons rfl (subs_cons rfl subs_nil)))))⟩) hr1 hr2)))))
 (Ex.stop (Es.ret (Ev.loc rfl)) (by intro _ _ h; cases h)))))
 case hfin => first | exact Fin.ret | exact Fin.next
theorem fn_bisR3 (c : C1) (H : List HObj) {n lo r : Nat} {A X key : V} {l : List V} {lt : Nat → Bool} (hl : Lsy H A l) (hlen : l.length < 2 ^ 40) (hk : Kp c.ct key) (hkn : ∀ (w : Wd) x, VRel w key x → (x == Value.none) = false) (hr1 : lo ≤ r) (hr2 : r ≤ l.length)
  (ask : ∀ i v, l[i]? = some v → lo ≤ i → i < l.length → ∃ kv, Fn c.ct n key [v] [] H H kv ∧ Cmp c.ct n .Lt X kv H (lt i)) (h1 : ∀ i, lo ≤ i → i < r → lt i = false) (h2 : ∀ i, r ≤ i → i < l.length → lt i = true) : Fn c.ct (n + 1) (.val (.ref 49)) [A, X, .int lo] [("key", key)] H H (.int r) := by
 have hhi := Nat.le_refl l.length
 refine' fnOf (ns := ["a", "x", "lo", "hi", "key"]) (vs := [A, X, .int lo, .none, key]) (o := .ret (.int r) H) ?ho ?hb ?hst ?hcd ?hns ?hnd ?hbind ?hbody ?hfin
 walk_at "t_of"
 case hbind => exact bind31 fun q_ q_ q_ q_ => Looks.of_peek c.X (by kernel_rfl)
 case hbody =>
  intro env hS; dsimp only at hS
  exact (Ex.cons (Es.ifFb (Tst.cmp (Ev.loc rfl) Ev.int Cmp.ltI) lt_zero Ex.nil)
 (Ex.cons (Es.ifTb (Tst.cmp (Ev.loc rfl) Ev.none (Cmp.isNone noneN)) (by rfl) (Ex.one (Es.assign (Ev.call (gB (g_len _) (kind_of hS rfl)) (EvA.args (EvL.cons (Ev.loc rfl) EvL.nil)) (Fn.len hl hlen) Kp.blt) (il hS rfl) rfl)))
 (Ex.cons (Es.ifFb (Tst.cmp (Ev.loc rfl) Ev.none (Cmp.isNone (b := false) hkn)) (by rfl) (Ex.one (Es.while (Wh.weak (subs_cons rfl (subs_cons rfl (subs_cons rfl (subs_cons rfl (subs_cons rfl subs_nil))))) (Wh.half (fun a b => [("lo", .int (a : Int)), ("hi", .int (b : Int)), ("a", A), ("x", X), ("key", key)]) (fun i => !lt i) (fun a b => (Tst.cmp (Ev.loc rfl) (Ev.loc rfl) Cmp.ltI)) (fun i a b => by show (!lt i) = true; rw [h1 i a b]; rfl) (fun i a b => by show (!lt i) = false; rw [h2 i a b]; rfl) (fun a b m hm m1 m2 => by
   have mlt : m < l.length := Nat.lt_of_lt_of_le m2 hhi
   obtain ⟨v, hv1, hv2⟩ := at_nat mlt
   obtain ⟨kv, hf, hc⟩ := ask m v hv1 m1 m2
   refine ⟨fun q => ?_, fun q => ?_⟩
   ·have q := not_t q
    exact ⟨_, (Ex.cons (Es.assign (Ev.bin (Ev.bin (Ev.loc rfl) (Ev.loc rfl) Bin.addInt) Ev.int (Bin.half hm)) (il hS rfl) rfl)
 (Ex.one (Es.ifFb (Tst.cmp (Ev.loc rfl) (Ev.call (Ev.loc rfl) (EvA.args (EvL.cons (Ev.sub (Ev.loc rfl) (Ev.loc rfl) (Itm.lst hl (Int.natCast_nonneg _) (le_p63 hlen mlt) hv2 (fun q_ q_ => rfl))) EvL.nil)) hf hk) hc) q (Ex.one (Es.assign (Ev.bin (Ev.loc rfl) Ev.int (Bin.addE (r := ((m + 1 : Nat) : Int)) (by rfl))) (il hS rfl) rfl))))), (subs_cons rfl (subs_cons rfl (subs_cons rfl (subs_cons rfl (subs_cons rfl subs_nil)))))⟩
   ·have q := not_f q
    exact ⟨_, (Ex.cons (Es.assign (Ev.bin (Ev.bin (Ev.loc rfl) (Ev.loc rfl) Bin.addInt) Ev.int (Bin.half hm)) (il hS rfl) rfl)
 (Ex.one (Es.ifTb (Tst.cmp (Ev.loc rfl) (Ev.call (Ev.loc rfl) (EvA.args (EvL.cons (Ev.sub (Ev.loc rfl) (Ev.loc rfl) (Itm.lst hl (Int.natCast_nonneg _) (le_p63 hlen mlt) hv2 (fun q_ q_ => rfl))) EvL.nil)) hf hk) hc) q (Ex.one (Es.assign (Ev.loc rfl) (il hS rfl) rfl))))), (subs_cons rfl (subs_cons rfl (subs_cons rfl (subs_cons rfl (subs_cons rfl subs_nil)))))⟩) hr1 hr2)))))
 (Ex.stop (Es.ret (Ev.loc rfl)) (by intro _ _ h; cases h)))))
 case hfin => first | exact Fin.ret | exact Fin.next
theorem fn_bisRN (c : C1) (H : List HObj) {n lo r : Nat} {A X key : V} {l : List V} {lt : Nat → Bool} (hl : Lsy H A l) (hlen : l.length < 2 ^ 40) (hk : Kp c.ct key) (hkn : ∀ (w : Wd) x, VRel w key x → (x == Value.none) = false) (hr1 : lo ≤ r) (hr2 : r ≤ l.length)
  (ask : ∀ i v, l[i]? = some v → lo ≤ i → i < l.length → ∃ kv, Fn c.ct n key [v] [] H H kv ∧ Cmp c.ct n .Lt X kv H (lt i)) (h1 : ∀ i, lo ≤ i → i < r → lt i = false) (h2 : ∀ i, r ≤ i → i < l.length → lt i = true) : Fn c.ct (n + 1) (.val (.ref 49)) [A, X, .int lo, .none] [("key", key)] H H (.int r) := by
 have hhi := Nat.le_refl l.length
 refine' fnOf (ns := ["a", "x", "lo", "hi", "key"]) (vs := [A, X, .int lo, .none, key]) (o := .ret (.int r) H) ?ho ?hb ?hst ?hcd ?hns ?hnd ?hbind ?hbody ?hfin
 walk_at "t_of"
 case hbind => exact bind41 fun q_ q_ q_ q_ q_ => Looks.of_peek c.X (by kernel_rfl)
 case hbody =>
  intro env hS; dsimp only at hS
  exact (Ex.cons (Es.ifFb (Tst.cmp (Ev.loc rfl) Ev.int Cmp.ltI) lt_zero Ex.nil)
 (Ex.cons (Es.ifTb (Tst.cmp (Ev.loc rfl) Ev.none (Cmp.isNone noneN)) (by rfl) (Ex.one (Es.assign (Ev.call (gB (g_len _) (kind_of hS rfl)) (EvA.args (EvL.cons (Ev.loc rfl) EvL.nil)) (Fn.len hl hlen) Kp.blt) (il hS rfl) rfl)))
 (Ex.cons (Es.ifFb (Tst.cmp (Ev.loc rfl) Ev.none (Cmp.isNone (b := false) hkn)) (by rfl) (Ex.one (Es.while (Wh.weak (subs_cons rfl (subs_cons rfl (subs_cons rfl (subs_cons rfl (subs_cons rfl subs_nil))))) (Wh.half (fun a b => [("lo", .int (a : Int)), ("hi", .int (b : Int)), ("a", A), ("x", X), ("key", key)]) (fun i => !lt i) (fun a b => (Tst.cmp (Ev.loc rfl) (Ev.loc rfl) Cmp.ltI)) (fun i a b => by show (!lt i) = true; rw [h1 i a b]; rfl) (fun i a b => by show (!lt i) = false; rw [h2 i a b]; rfl) (fun a b m hm m1 m2 => by
   have mlt : m < l.length := Nat.lt_of_lt_of_le m2 hhi
   obtain ⟨v, hv1, hv2⟩ := at_nat mlt
   obtain ⟨kv, hf, hc⟩ := ask m v hv1 m1 m2
   refine ⟨fun q => ?_, fun q => ?_⟩
   ·have q := not_t q
    exact ⟨_, (Ex.cons (Es.assign (Ev.bin (Ev.bin (Ev.loc rfl) (Ev.loc rfl) Bin.addInt) Ev.int (Bin.half hm)) (il hS rfl) rfl)
 (Ex.one (Es.ifFb (Tst.cmp (Ev.loc rfl) (Ev.call (Ev.loc rfl) (EvA.args (EvL.cons (Ev.sub (Ev.loc rfl) (Ev.loc rfl) (Itm.lst hl (Int.natCast_nonneg _) (le_p63 hlen mlt) hv2 (fun q_ q_ => rfl))) EvL.nil)) hf hk) hc) q (Ex.one (Es.assign (Ev.bin (Ev.loc rfl) Ev.int (Bin.addE (r := ((m + 1 : Nat) : Int)) (by rfl))) (il hS rfl) rfl))))), (subs_cons rfl (subs_cons rfl (subs_cons rfl (subs_cons rfl (subs_cons rfl subs_nil)))))⟩
   ·have q := not_f q
    exact ⟨_, (Ex.cons (Es.assign (Ev.bin (Ev.bin (Ev.loc rfl) (Ev.loc rfl) Bin.addInt) Ev.int (Bin.half hm)) (il hS rfl) rfl)
 (Ex.one (Es.ifTb (Tst.cmp (Ev.loc rfl) (Ev.call (Ev.loc rfl) (EvA.args (EvL.cons (Ev.sub (Ev.loc rfl) (Ev.loc rfl) (Itm.lst hl (Int.natCast_nonneg _) (le_p63 hlen mlt) hv2 (fun q_ q_ => rfl))) EvL.nil)) hf hk) hc) q (Ex.one (Es.assign (Ev.loc rfl) (il hS rfl) rfl))))), (subs_cons rfl (subs_cons rfl (subs_cons rfl (subs_cons rfl (subs_cons rfl subs_nil)))))⟩) hr1 hr2)))))
 (Ex.stop (Es.ret (Ev.loc rfl)) (by intro _ _ h; cases h)))))
 case hfin => first | exact Fin.ret | exact Fin.next
theorem fn_bisR0 (c : C1) (H : List HObj) {n lo hi r : Nat} {A X : V} {l : List V} {lt : Nat → Bool} (hl : Lsy H A l) (hlen : l.length < 2 ^ 40) (hhi : hi ≤ l.length) (hr1 : lo ≤ r) (hr2 : r ≤ hi)
  (ask : ∀ i v, l[i]? = some v → lo ≤ i → i < hi → Cmp c.ct n .Lt X v H (lt i)) (h1 : ∀ i, lo ≤ i → i < r → lt i = false) (h2 : ∀ i, r ≤ i → i < hi → lt i = true) : Fn c.ct (n + 1) (.val (.ref 49)) [A, X, .int lo, .int hi] [] H H (.int r) := by
 refine' fnOf (ns := ["a", "x", "lo", "hi", "key"]) (vs := [A, X, .int lo, .int hi, .none]) (o := .ret (.int r) H) ?ho ?hb ?hst ?hcd ?hns ?hnd ?hbind ?hbody ?hfin
 walk_at "t_of"
 case hbind => exact bind4d fun q_ q_ q_ q_ => Looks.of_peek c.X (by kernel_rfl)
 case hbody =>
  intro env hS; dsimp only at hS
  exact (Ex.cons (Es.ifFb (Tst.cmp (Ev.loc rfl) Ev.int Cmp.ltI) lt_zero Ex.nil)
 (Ex.cons (Es.ifFb (Tst.cmp (Ev.loc rfl) Ev.none (Cmp.isNone noneI)) (by rfl) Ex.nil)
 (Ex.cons (Es.ifTb (Tst.cmp (Ev.loc rfl) Ev.none (Cmp.isNone (b := true) noneN)) (by rfl) (Ex.one (Es.while (Wh.weak (subs_cons rfl (subs_cons rfl (subs_cons rfl (subs_cons rfl (subs_cons rfl subs_nil))))) (Wh.half (fun a b => [("lo", .int (a : Int)), ("hi", .int (b : Int)), ("a", A), ("x", X), ("key", .none)]) (fun i => !lt i) (fun a b => (Tst.cmp (Ev.loc rfl) (Ev.loc rfl) Cmp.ltI)) (fun i a b => by show (!lt i) = true; rw [h1 i a b]; rfl) (fun i a b => by show (!lt i) = false; rw [h2 i a b]; rfl) (fun a b m hm m1 m2 => by
   have mlt : m < l.length := Nat.lt_of_lt_of_le m2 hhi
   obtain ⟨v, hv1, hv2⟩ := at_nat mlt
   have hc := ask m v hv1 m1 m2
   refine ⟨fun q => ?_, fun q => ?_⟩
   ·have q := not_t q
    exact ⟨_, (Ex.cons (Es.assign (Ev.bin (Ev.bin (Ev.loc rfl) (Ev.loc rfl) Bin.addInt) Ev.int (Bin.half hm)) (il hS rfl) rfl)
 (Ex.one (Es.ifFb (Tst.cmp (Ev.loc rfl) (Ev.sub (Ev.loc rfl) (Ev.loc rfl) (Itm.lst hl (Int.natCast_nonneg _) (le_p63 hlen mlt) hv2 (fun q_ q_ => rfl))) hc) q (Ex.one (Es.assign (Ev.bin (Ev.loc rfl) Ev.int (Bin.addE (r := ((m + 1 : Nat) : Int)) (by rfl))) (il hS rfl) rfl))))), (subs_cons rfl (subs_cons rfl (subs_cons rfl (subs_cons rfl (subs_cons rfl subs_nil)))))⟩
   ·have q := not_f q
    exact ⟨_, (Ex.cons (Es.assign (Ev.bin (Ev.bin (Ev.loc rfl) (Ev.loc rfl) Bin.addInt) Ev.int (Bin.half hm)) (il hS rfl) rfl)
 (Ex.one (Es.ifTb (Tst.cmp (Ev.loc rfl) (Ev.sub (Ev.loc rfl) (Ev.loc rfl) (Itm.lst hl (Int.natCast_nonneg _) (le_p63 hlen mlt) hv2 (fun q_ q_ => rfl))) hc) q (Ex.one (Es.assign (Ev.loc rfl) (il hS rfl) rfl))))), (subs_cons rfl (subs_cons rfl (subs_cons rfl (subs_cons rfl (subs_cons rfl subs_nil)))))⟩) hr1 hr2)))))
 (Ex.stop (Es.ret (Ev.loc rfl)) (by intro _ _ h; cases h)))))
 case hfin => first | exact Fin.ret | exact Fin.next
theorem fn_bisL (c : C1) (H : List HObj) {n lo hi r : Nat} {A X key : V} {l : List V} {lt : Nat → Bool} (hl : Lsy H A l) (hlen : l.length < 2 ^ 40) (hk : Kp c.ct key) (hkn : ∀ (w : Wd) x, VRel w key x → (x == Value.none) = false) (hhi : hi ≤ l.length) (hr1 : lo ≤ r) (hr2 : r ≤ hi)
  (ask : ∀ i v, l[i]? = some v → lo ≤ i → i < hi → ∃ kv, Fn c.ct n key [v] [] H H kv ∧ Cmp c.ct n .Lt kv X H (lt i)) (h1 : ∀ i, lo ≤ i → i < r → lt i = true) (h2 : ∀ i, r ≤ i → i < hi → lt i = false) : Fn c.ct (n + 1) (.val (.ref 58)) [A, X, .int lo, .int hi] [("key", key)] H H (.int r) := by
 refine' fnOf (ns := ["a", "x", "lo", "hi", "key"]) (vs := [A, X, .int lo, .int hi, key]) (o := .ret (.int r) H) ?ho ?hb ?hst ?hcd ?hns ?hnd ?hbind ?hbody ?hfin
 walk_at "t_of"
 case hbind => exact bind41 fun q_ q_ q_ q_ q_ => Looks.of_peek c.X (by kernel_rfl)
 case hbody =>
  intro env hS; dsimp only at hS
  exact (Ex.cons (Es.ifFb (Tst.cmp (Ev.loc rfl) Ev.int Cmp.ltI) lt_zero Ex.nil)
 (Ex.cons (Es.ifFb (Tst.cmp (Ev.loc rfl) Ev.none (Cmp.isNone noneI)) (by rfl) Ex.nil)
 (Ex.cons (Es.ifFb (Tst.cmp (Ev.loc rfl) Ev.none (Cmp.isNone (b := false) hkn)) (by rfl) (Ex.one (Es.while (Wh.weak (subs_cons rfl (subs_cons rfl (subs_cons rfl (subs_cons rfl (subs_cons rfl subs_nil))))) (Wh.half (fun a b => [("lo", .int (a : Int)), ("hi", .int (b : Int)), ("a", A), ("x", X), ("key", key)]) lt (fun a b => (Tst.cmp (Ev.loc rfl) (Ev.loc rfl) Cmp.ltI)) h1 h2 (fun a b m hm m1 m2 => by
   have mlt : m < l.length := Nat.lt_of_lt_of_le m2 hhi
   obtain ⟨v, hv1, hv2⟩ := at_nat mlt
   obtain ⟨kv, hf, hc⟩ := ask m v hv1 m1 m2
   refine ⟨fun q => ?_, fun q => ?_⟩
   ·have q := q
    exact ⟨_, (Ex.cons (Es.assign (Ev.bin (Ev.bin (Ev.loc rfl) (Ev.loc rfl) Bin.addInt) Ev.int (Bin.half hm)) (il hS rfl) rfl)
 (Ex.one (Es.ifTb (Tst.cmp (Ev.call (Ev.loc rfl) (EvA.args (EvL.cons (Ev.sub (Ev.loc rfl) (Ev.loc rfl) (Itm.lst hl (Int.natCast_nonneg _) (le_p63 hlen mlt) hv2 (fun q_ q_ => rfl))) EvL.nil)) hf hk) (Ev.loc rfl) hc) q (Ex.one (Es.assign (Ev.bin (Ev.loc rfl) Ev.int (Bin.addE (r := ((m + 1 : Nat) : Int)) (by rfl))) (il hS rfl) rfl))))), (subs_cons rfl (subs_cons rfl (subs_cons rfl (subs_cons rfl (subs_cons rfl subs_nil)))))⟩
   ·have q := q
    exact ⟨_, (Ex.cons (Es.assign (Ev.bin (Ev.bin (Ev.loc rfl) (Ev.loc rfl) Bin.addInt) Ev.int (Bin.half hm)) (il hS rfl) rfl)
 (Ex.one (Es.ifFb (Tst.cmp (Ev.call (Ev.loc rfl) (EvA.args (EvL.cons (Ev.sub (Ev.loc rfl) (Ev.loc rfl) (Itm.lst hl (Int.natCast_nonneg _) (le_p63 hlen mlt) hv2 (fun q_ q_ => rfl))) EvL.nil)) hf hk) (Ev.loc rfl) hc) q (Ex.one (Es.assign (Ev.loc rfl) (il hS rfl) rfl))))), (subs_cons rfl (subs_cons rfl (subs_cons rfl (subs_cons rfl (subs_cons rfl subs_nil)))))⟩) hr1 hr2)))))
 (Ex.stop (Es.ret (Ev.loc rfl)) (by intro _ _ h; cases h)))))
 case hfin => first | exact Fin.ret | exact Fin.next
theorem fn_bisL2 (c : C1) (H : List HObj) {n r : Nat} {A X key : V} {l : List V} {lt : Nat → Bool} (hl : Lsy H A l) (hlen : l.length < 2 ^ 40) (hk : Kp c.ct key) (hkn : ∀ (w : Wd) x, VRel w key x → (x == Value.none) = false) (hr2 : r ≤ l.length)
  (ask : ∀ i v, l[i]? = some v → i < l.length → ∃ kv, Fn c.ct n key [v] [] H H kv ∧ Cmp c.ct n .Lt kv X H (lt i)) (h1 : ∀ i, i < r → lt i = true) (h2 : ∀ i, r ≤ i → i < l.length → lt i = false) : Fn c.ct (n + 1) (.val (.ref 58)) [A, X] [("key", key)] H H (.int r) := by
 have hhi := Nat.le_refl l.length
 have hr1 := Nat.zero_le r
 refine' fnOf (ns := ["a", "x", "lo", "hi", "key"]) (vs := [A, X, .int ((0 : Nat) : Int), .none, key]) (o := .ret (.int r) H) ?ho ?hb ?hst ?hcd ?hns ?hnd ?hbind ?hbody ?hfin
 walk_at "t_of"
 case hbind => exact (fun q_ xs ks rx rk => by obtain ⟨a, b, rfl, h1, h2⟩ := rx.inv2; obtain ⟨e, rfl, h5⟩ := VRels.inv1 rk; exact ⟨[_, _, .int 0 (tokAt c.w.params 50), .none, _], .cons h1 (.cons h2 (.cons (.int _ _) (.cons .none (.cons h5 .nil)))), Looks.of_peek c.X (by kernel_rfl)⟩)
 case hbody =>
  intro env hS; dsimp only at hS
  exact (Ex.cons (Es.ifFb (Tst.cmp (Ev.loc rfl) Ev.int Cmp.ltI) lt_zero Ex.nil)
 (Ex.cons (Es.ifTb (Tst.cmp (Ev.loc rfl) Ev.none (Cmp.isNone noneN)) (by rfl) (Ex.one (Es.assign (Ev.call (gB (g_len _) (kind_of hS rfl)) (EvA.args (EvL.cons (Ev.loc rfl) EvL.nil)) (Fn.len hl hlen) Kp.blt) (il hS rfl) rfl)))
 (Ex.cons (Es.ifFb (Tst.cmp (Ev.loc rfl) Ev.none (Cmp.isNone (b := false) hkn)) (by rfl) (Ex.one (Es.while (Wh.weak (subs_cons rfl (subs_cons rfl (subs_cons rfl (subs_cons rfl (subs_cons rfl subs_nil))))) (Wh.half (fun a b => [("lo", .int (a : Int)), ("hi", .int (b : Int)), ("a", A), ("x", X), ("key", key)]) lt (fun a b => (Tst.cmp (Ev.loc rfl) (Ev.loc rfl) Cmp.ltI)) (fun i q_ => h1 i) h2 (fun a b m hm m1 m2 => by
   have mlt : m < l.length := Nat.lt_of_lt_of_le m2 hhi
   obtain ⟨v, hv1, hv2⟩ := at_nat mlt
   obtain ⟨kv, hf, hc⟩ := ask m v hv1 m2
   refine ⟨fun q => ?_, fun q => ?_⟩
   ·have q := q
    exact ⟨_, (Ex.cons (Es.assign (Ev.bin (Ev.bin (Ev.loc rfl) (Ev.loc rfl) Bin.addInt) Ev.int (Bin.half hm)) (il hS rfl) rfl)
 (Ex.one (Es.ifTb (Tst.cmp (Ev.call (Ev.loc rfl) (EvA.args (EvL.cons (Ev.sub (Ev.loc rfl) (Ev.loc rfl) (Itm.lst hl (Int.natCast_nonneg _) (le_p63 hlen mlt) hv2 (fun q_ q_ => rfl))) EvL.nil)) hf hk) (Ev.loc rfl) hc) q (Ex.one (Es.assign (Ev.bin (Ev.loc rfl) Ev.int (Bin.addE (r := ((m + 1 : Nat) : Int)) (by rfl))) (il hS rfl) rfl))))), (subs_cons rfl (subs_cons rfl (subs_cons rfl (subs_cons rfl (subs_cons rfl subs_nil)))))⟩
   ·have q := q
    exact ⟨_, (Ex.cons (Es.assign (Ev.bin (Ev.bin (Ev.loc rfl) (Ev.loc rfl) Bin.addInt) Ev.int (Bin.half hm)) (il hS rfl) rfl)
 (Ex.one (Es.ifFb (Tst.cmp (Ev.call (Ev.loc rfl) (EvA.args (EvL.cons (Ev.sub (Ev.loc rfl) (Ev.loc rfl) (Itm.lst hl (Int.natCast_nonneg _) (le_p63 hlen mlt) hv2 (fun q_ q_ => rfl))) EvL.nil)) hf hk) (Ev.loc rfl) hc) q (Ex.one (Es.assign (Ev.loc rfl) (il hS rfl) rfl))))), (subs_cons rfl (subs_cons rfl (subs_cons rfl (subs_cons rfl (subs_cons rfl subs_nil)))))⟩) hr1 hr2)))))
 (Ex.stop (Es.ret (Ev.loc rfl)) (by intro _ _ h; cases h)))))
 case hfin => first | exact Fin.ret | exact Fin.next
theorem fn_insort (c : C1) (H : List HObj) {n r j : Nat} {X KX key : V} {l : List V} {lt : Nat → Bool} (hH : H[j]? = some (.list l)) (hlen : l.length < 2 ^ 24) (hd : X.dat = true) (hk : Kp c.ct key) (hkn : ∀ (w : Wd) x, VRel w key x → (x == Value.none) = false) (hr2 : r ≤ l.length)
  (hx : Fn c.ct n key [X] [] H H KX) (ask : ∀ i v, l[i]? = some v → i < l.length → ∃ kv, Fn c.ct n key [v] [] H H kv ∧ Cmp c.ct n .Lt KX kv H (lt i)) (h1 : ∀ i, i < r → lt i = false) (h2 : ∀ i, r ≤ i → i < l.length → lt i = true) : Fn c.ct (n + 2) (.val (.ref 40)) [.ref j, X] [("key", key)] H (H.set j (.list (l.take r ++ X :: l.drop r))) .none := by
 refine' fnOf (ns := ["a", "x", "lo", "hi", "key"]) (vs := [.ref j, X, .int ((0 : Nat) : Int), .none, key]) (o := .next (("lo", .int r) :: [("a", .ref j), ("x", X), ("lo", .int ((0 : Nat) : Int)), ("hi", .none), ("key", key)]) (H.set j (.list (l.take r ++ X :: l.drop r)))) ?ho ?hb ?hst ?hcd ?hns ?hnd ?hbind ?hbody ?hfin
 walk_at "t_of"
 case hbind => exact (fun q_ xs ks rx rk => by obtain ⟨a, b, rfl, h1, h2⟩ := rx.inv2; obtain ⟨e, rfl, h5⟩ := VRels.inv1 rk; exact ⟨[_, _, .int 0 (insTok c.w.params), .none, _], .cons h1 (.cons h2 (.cons (.int _ _) (.cons .none (.cons h5 .nil)))), Looks.of_peek c.X (by kernel_rfl)⟩)
 case hbody =>
  intro env hS; dsimp only at hS
  exact (Ex.cons (Es.ifFb (Tst.cmp (Ev.loc rfl) Ev.none (Cmp.isNone (b := false) hkn)) (by rfl) (Ex.one (Es.assign (Ev.call (gV (g_bisect_right _) (kind_of hS rfl)) (EvA.kw (kv := [("key", _)]) (EvL.cons (Ev.loc rfl) (EvL.cons (Ev.call (Ev.loc rfl) (EvA.args (EvL.cons (Ev.loc rfl) EvL.nil)) (hx.le (Nat.le_add_right _ _)) hk) (EvL.cons (Ev.loc rfl) (EvL.cons (Ev.loc rfl) EvL.nil)))) (EvK.cons (Ev.loc rfl) EvK.nil) (fun q_ => rfl) (fun q_ => rfl) (fun q_ => rfl)) (fn_bisRN c H (.ref hH) (Nat.lt_of_lt_of_le hlen (by decide)) hk hkn (Nat.zero_le r) hr2 (fun i v a q_ b => ask i v a b) (fun i q_ b => h1 i b) h2) (kp_bisect_right _)) (il hS rfl) rfl)))
 (Ex.one (Es.expr (Ev.meth (Ev.loc rfl) (EvL.cons (Ev.loc rfl) (EvL.cons (Ev.loc rfl) EvL.nil)) (Mth.insert hH hd hr2 (Nat.le_trans (Nat.le_of_lt hlen) (by decide))) (Typ.lst (Lsy.ref hH)) rfl rfl rfl rfl (fun q_ q_ q_ q_ q_ h => Calls.evalArgs_plain h)) (in_of hS (by intro e he; cases e; dsimp only at he; subst he; rfl)) rfl)))
 case hfin => first | exact Fin.ret | exact Fin.next
section
noncomputable def HES (P : Params) : Array DictEntry := match (hd02.heap_39 P).lookup 246 with
 | some ⟨_, _, .dict es _, _⟩ => es
 | _ => #[]
theorem hdr_cls_of {c : C1} {es : Array DictEntry} {n : Nat} {nm q : Str} {bs : List Value} {sn : List Str} {sub : List Value} {ab : Bool} {col : Option Bool} {dd : Option Addr} {k0 k1 k2 k3 k5 : Option Value} {newId : String}
  (h1 : (hd02.heap_39 c.w.params).lookup 247 = some (excClassObj nm q 247 246 bs [.type "object"] true sn sub ab col dd k0 k1 k2 k3 k5 newId)) (h2 : (hd02.heap_39 c.w.params).lookup 246 = some ⟨.type "dict", none, .dict es n, #[]⟩) (h3 : strKeysB es = true) : Cls c.ct 247 246 (HES c.w.params) := by
 have : HES c.w.params = es := by unfold HES; rw [h2]
 rw [this]
 exact cls_of h1 h2 h3
theorem hdr_cls (c : C1) : Cls c.ct 247 246 (HES c.w.params) := by
 refine' hdr_cls_of ?k1 ?k2 ?k3
 case k1 => k_is
 case k2 => k_is
 case k3 => kernel_rfl
theorem hdr_ga (c : C1) : nsFind (HES c.w.params) (Str.ofString "__getattribute__") = none := by kernel_rfl
theorem hdr_gat (c : C1) : nsFind (HES c.w.params) (Str.ofString "__getattr__") = none := by kernel_rfl
theorem hdr_sa (c : C1) : nsFind (HES c.w.params) (Str.ofString "__setattr__") = none := by kernel_rfl
theorem hdr_h (c : C1) : nsFind (HES c.w.params) (Str.ofString "_headers") = none := by kernel_rfl
theorem obj_h : typeLookup (.type "object") (Str.ofString "_headers") = pure none := by rw [typeLookup_type, builtinLookup_eq_fast]; kernel_rfl
noncomputable abbrev HX : Str := Str.ofString "_headers"
structure HM (c : C1) (name : Str) (f : Addr) : Prop where
 find : nsFind (HES c.w.params) name = some (.ref f)
 obj : ∃ fo, (hd02.heap_39 c.w.params).lookup f = some fo ∧ fo.cls = .type "function"
 keep : keepIn (hd02.heap_39 c.w.params) (.ref f) = true
 top : typeLookup (.type "object") name = pure none
 ne : ¬ name = HX
theorem HM.of {c : C1} {name : Str} {f : Addr} {fo : Obj} (h1 : nsFind (HES c.w.params) name = some (.ref f)) (h2 : (hd02.heap_39 c.w.params).lookup f = some fo) (h3 : fo.cls = .type "function") (h4 : keepIn (hd02.heap_39 c.w.params) (.ref f) = true) (h5 : typeLookup (.type "object") name = pure none) (h6 : ¬ name = HX) : HM c name f := ⟨h1, ⟨_, h2, h3⟩, h4, h5, h6⟩
theorem hm_conv (c : C1) : HM c (Str.ofString "_convert_string_type") 148 := by
 refine' HM.of ?k1 ?k2 ?k3 ?k4 ?k5 ?k6
 case k1 => kernel_rfl
 case k2 => k_is
 case k3 => rfl
 case k4 => k_is
 case k5 => rw [typeLookup_type, builtinLookup_eq_fast]; kernel_rfl
 case k6 => decide
theorem hm_items (c : C1) : HM c (Str.ofString "items") 211 := by
 refine' HM.of ?k1 ?k2 ?k3 ?k4 ?k5 ?k6
 case k1 => kernel_rfl
 case k2 => k_is
 case k3 => rfl
 case k4 => k_is
 case k5 => rw [typeLookup_type, builtinLookup_eq_fast]; kernel_rfl
 case k6 => decide
theorem hm_get (c : C1) : HM c (Str.ofString "get") 194 := by
 refine' HM.of ?k1 ?k2 ?k3 ?k4 ?k5 ?k6
 case k1 => kernel_rfl
 case k2 => k_is
 case k3 => rfl
 case k4 => k_is
 case k5 => rw [typeLookup_type, builtinLookup_eq_fast]; kernel_rfl
 case k6 => decide
theorem hm_get_all (c : C1) : HM c (Str.ofString "get_all") 186 := by
 refine' HM.of ?k1 ?k2 ?k3 ?k4 ?k5 ?k6
 case k1 => kernel_rfl
 case k2 => k_is
 case k3 => rfl
 case k4 => k_is
 case k5 => rw [typeLookup_type, builtinLookup_eq_fast]; kernel_rfl
 case k6 => decide
theorem hm_add_header (c : C1) : HM c (Str.ofString "add_header") 244 := by
 refine' HM.of ?k1 ?k2 ?k3 ?k4 ?k5 ?k6
 case k1 => kernel_rfl
 case k2 => k_is
 case k3 => rfl
 case k4 => k_is
 case k5 => rw [typeLookup_type, builtinLookup_eq_fast]; kernel_rfl
 case k6 => decide
section
variable {c : C1} {n : Nat} {env : Env} {σ σ' σ1 : Loc} {H H' H0 H1 H2 H3 : List HObj} {pos p0 pos' apos p : Pos} {k : Nat} {x y name id : Str} {v v1 v2 v3 : V} {e e1 e2 e3 : PySem.Expr} {i j : Nat} {f : Addr}
theorem Ev.hdr {esx : List PySem.Expr} {ks : List Keyword} {vs : List V} {kv : List (Str × V)} {pl : Sem Bool} (m : HM c name f) (h : Ev c.ct n env σ H (.Name id p) H1 (.sem (instA 247 j))) (hj : H1[j]? = some (.sem (ownA HX i)))
  (ha : EvA c.ct n env σ H1 pos esx ks H2 vs kv) (hc : Fn c.ct n (.val (.ref f)) (.sem (instA 247 j) :: vs) kv H2 H3 v)
  (hp : ((backTo pos (starEach esx env)).any (·.1) || (backToKw pos (keywordEach ks env)).any (·.1.isNone)) = false)
  (he : eval (.Call (.Attribute (.Name id p) name apos) esx ks pos) env = (do
   let ov ← eval (.Name id p) env
   standAt apos.atName
   let (f, first) ← holding [ov] (getMethod ov name pl)
   callWith pos f first (backTo pos (starEach esx env)) (backToKw pos (keywordEach ks env)))) :
  Ev c.ct n env σ H (.Call (.Attribute (.Name id p) name apos) esx ks pos) H3 v := by
 obtain ⟨fo, h1, h2⟩ := m.obj
 exact Ev.inst (hdr_cls c) h hj m.ne (hdr_ga c) (hdr_gat c) m.find h1 h2 m.top ha hc m.keep hp he
theorem Ev.hdrs (h : Ev c.ct n env σ H (.Name id p) H1 (.sem (instA 247 j))) (hj : H1[j]? = some (.sem (ownA HX i))) : Ev c.ct n env σ H (.Attribute (.Name id p) HX pos) H1 (.ref i) :=
 Ev.attr (hdr_cls c) h hj (hdr_ga c) (hdr_h c) obj_h
end
theorem patN_of {c : C1} {a b : Value} {t : Tok} {d e : Value} {ct : Addr} {t' : Tok} {q : Addr} {vs : Array Value} {m : Nat} {code : Array Nat} (h1 : (hd02.heap_39 c.w.params).lookup q = some ⟨.type "re.Pattern", none, .fields #[a, b, .int 0 t, d, e, .ref ct, .int 0 t'], #[]⟩)
  (h2 : (hd02.heap_39 c.w.params).lookup ct = some ⟨.type "tuple", none, .seq vs m, #[]⟩) (h3 : (vs.map Builtin.Re.reRawOf).map (·.toNat) = code) (h4 : ((match Sre.ops[code.getD 0 0]? with | some .INFO => true | _ => false) && code.getD 2 0 == 4) = true) : ∃ ct, Pat c.ct q ct code := ⟨ct, ⟨_, _, h2, h3⟩, ⟨_, _, _, _, _, _, h1⟩, h4⟩
theorem patN (c : C1) : ∃ ct, Pat c.ct 113 ct codeN := by
 refine' patN_of ?k1 ?k2 ?k3 ?k4
 case k1 => k_is
 case k2 => k_is
 case k3 => kernel_rfl
 case k4 => kernel_rfl
theorem patV (c : C1) : ∃ ct, Pat c.ct 118 ct codeV := by
 refine' patN_of ?k1 ?k2 ?k3 ?k4
 case k1 => k_is
 case k2 => k_is
 case k3 => kernel_rfl
 case k4 => kernel_rfl
end
noncomputable def Plain (x : Str) : Prop := (∀ c ∈ x.cps, plain c) ∧ x.length ≤ 100000
theorem Plain.lt {x : Str} (h : Plain x) : x.length < 2 ^ 60 := Nat.lt_of_le_of_lt h.2 (by decide)
theorem conv_name (c : C1) (H : List HObj) {S : V} {x : Str} (hx : Plain x) : Fn c.ct 3 (.val (.ref 148)) [S, .str x] [(Str.ofString "name", .bool true)] H H (.str x) := by
 obtain ⟨_, hp⟩ := patN c
 refine' fnOf (ns := [Str.ofString "self", Str.ofString "value", Str.ofString "name"]) (vs := [S, .str x, .bool true]) (o := .ret (.str x) H) ?ho ?hb ?hst ?hcd ?hns ?hnd ?hbind ?hbody ?hfin
 walk_at "t_of"
 case hbind => exact bind21 fun q_ q_ q_ => Looks.of_peek c.X (by kernel_rfl)
 case hbody =>
  intro env hS; dsimp only at hS
  exact (Ex.stop (Es.ifTb (Tst.cmp (Ev.call (gB (g_type _) (kind_of hS rfl)) (EvA.args (EvL.cons (Ev.loc rfl) EvL.nil)) (by exact Fn.typeOf Typ.str (by decide)) Kp.typ) (gB (g_str _) (kind_of hS rfl)) Cmp.isT) (by decide) (Ex.cons (Es.assign (Ev.ifTb (Tst.val (Ev.loc rfl) Tru.bool rfl) (by rfl) (gV (g_name_disallowed_re _) (kind_of hS rfl))) (il hS rfl) rfl)
 (Ex.cons (Es.ifFb (Tst.val (Ev.meth (Ev.loc rfl) (EvL.cons (Ev.loc rfl) EvL.nil) (by exact Mth.search0 hp (fun c hc => missN (hx.1 c hc)) hx.lt) hp.typ rfl rfl rfl rfl (fun q_ q_ q_ q_ q_ h => Calls.evalArgs_plain h)) Tru.none rfl) (by rfl) Ex.nil)
 (Ex.stop (Es.ret (Ev.loc rfl)) (by intro _ _ h; cases h))))) (by intro _ _ h; cases h))
 case hfin => first | exact Fin.ret | exact Fin.next
theorem conv_value (c : C1) (H : List HObj) {S : V} {x : Str} (hx : Plain x) : Fn c.ct 3 (.val (.ref 148)) [S, .str x] [(Str.ofString "name", .bool false)] H H (.str x) := by
 obtain ⟨_, hp⟩ := patV c
 refine' fnOf (ns := [Str.ofString "self", Str.ofString "value", Str.ofString "name"]) (vs := [S, .str x, .bool false]) (o := .ret (.str x) H) ?ho ?hb ?hst ?hcd ?hns ?hnd ?hbind ?hbody ?hfin
 walk_at "t_of"
 case hbind => exact bind21 fun q_ q_ q_ => Looks.of_peek c.X (by kernel_rfl)
 case hbody =>
  intro env hS; dsimp only at hS
  exact (Ex.stop (Es.ifTb (Tst.cmp (Ev.call (gB (g_type _) (kind_of hS rfl)) (EvA.args (EvL.cons (Ev.loc rfl) EvL.nil)) (by exact Fn.typeOf Typ.str (by decide)) Kp.typ) (gB (g_str _) (kind_of hS rfl)) Cmp.isT) (by decide) (Ex.cons (Es.assign (Ev.ifFb (Tst.val (Ev.loc rfl) Tru.bool rfl) (by rfl) (gV (g_value_disallowed_re _) (kind_of hS rfl))) (il hS rfl) rfl)
 (Ex.cons (Es.ifFb (Tst.val (Ev.meth (Ev.loc rfl) (EvL.cons (Ev.loc rfl) EvL.nil) (by exact Mth.search0 hp (fun c hc => missV (hx.1 c hc)) hx.lt) hp.typ rfl rfl rfl rfl (fun q_ q_ q_ q_ q_ h => Calls.evalArgs_plain h)) Tru.none rfl) (by rfl) Ex.nil)
 (Ex.stop (Es.ret (Ev.loc rfl)) (by intro _ _ h; cases h))))) (by intro _ _ h; cases h))
 case hfin => first | exact Fin.ret | exact Fin.next
theorem fnCOf {c : C1} {n : Nat} {H H' : List HObj} {v : V} {o : Out} {f : Addr} {fd : FuncData} {oc : Value} {od : Option Addr} {osl : Array (Option Value)} {body : List PySem.Stmt} {args : List V} {kw : List (Str × V)} {ns : List Str} {vs : List V}
  (ho : (hd02.heap_39 c.w.params).lookup f = some ⟨oc, od, .func fd, osl⟩) (hb : fd.body = .stmts body) (hst : fdOk fd = true) (hcd : codeIn (hd02.heap_39 c.w.params) fd.code fd.qualname = true) (hns : namesOk fd ns = true) (hnd : ns.Nodup)
  (hbind : Binds c.ct fd args kw ns vs) (hbody : ∀ env : Env, env.scope = fd.scope → Ex c.ct n env (ns.zip vs) H body o) (hfin : Fin o v H') : FnC c.ct (n + 1) (.val (.ref f)) args kw H H' v := FnC.ofDef ho hb hst hcd hns hnd (Binds.wide hbind) hbody hfin
theorem fnXOf {c : C1} {n : Nat} {H H1 H' : List HObj} {v : V} {o : Out} {f : Addr} {fd : FuncData} {oc : Value} {od : Option Addr} {osl : Array (Option Value)} {body : List PySem.Stmt} {args : List V} {kw : List (Str × V)} {ns : List Str} {vs : List V}
  (ho : (hd02.heap_39 c.w.params).lookup f = some ⟨oc, od, .func fd, osl⟩) (hb : fd.body = .stmts body) (hst : fdOk fd = true) (hcd : codeIn (hd02.heap_39 c.w.params) fd.code fd.qualname = true) (hns : namesOk fd ns = true) (hnd : ns.Nodup)
  (hbind : BindsX c.ct fd args kw ns vs H H1) (hbody : ∀ env : Env, env.scope = fd.scope → Ex c.ct n env (ns.zip vs) H1 body o) (hfin : Fin o v H') : Fn c.ct (n + 1) (.val (.ref f)) args kw H H' v := (FnC.ofDef ho hb hst hcd hns hnd hbind hbody hfin).fn
noncomputable abbrev HdV (H : List HObj) : V := .sem (instA 247 H.length)
theorem set_bare {H : List HObj} {a b x : HObj} : ((H ++ [a]) ++ [b]).set H.length x = H ++ [x, b] := by
 rw [List.append_assoc, List.set_append_right _ _ (Nat.le_refl _), Nat.sub_self]; rfl
noncomputable def pairsV (l : List (Str × Str)) : List V := l.map fun p => .tup [.str p.1, .str p.2]
theorem hm_make (c : C1) : makesIn (hd02.heap_39 c.w.params) 247 = true := by k_is
theorem hm_init (c : C1) : findIn (hd02.heap_39 c.w.params) (.ref 247) "__init__" = some (some (.ref 141)) := by k_is
theorem hm_itype (c : C1) : typeIn (hd02.heap_39 c.w.params) (.ref 141) = some (.type "function") := by k_is
theorem init_core (c : C1) (H : List HObj) : FnC c.ct 4 (.val (.ref 141)) [HdV H] [] (H ++ [HObj.sem bareA]) (((H ++ [HObj.sem bareA]) ++ [HObj.list []]).set H.length (HObj.sem (ownA HX (H ++ [HObj.sem bareA]).length))) .none := by
 have hl0 : ((H ++ [HObj.sem bareA]) ++ [HObj.list []])[(H ++ [HObj.sem bareA]).length]? = some (.list []) := by simp
 have hb0 : ((H ++ [HObj.sem bareA]) ++ [HObj.list []])[H.length]? = some (.sem bareA) := by simp
 have hl1 : (((H ++ [HObj.sem bareA]) ++ [HObj.list []]).set H.length (HObj.sem (ownA HX (H ++ [HObj.sem bareA]).length)))[(H ++ [HObj.sem bareA]).length]? = some (.list []) := by rw [set_bare]; simp
 refine' fnCOf (ns := [Str.ofString "self", Str.ofString "headers"]) (vs := [HdV H, .none]) (o := .next [(Str.ofString "headers", V.ref (H ++ [HObj.sem bareA]).length), (Str.ofString "self", HdV H), (Str.ofString "headers", V.none)] (((H ++ [HObj.sem bareA]) ++ [HObj.list []]).set H.length (HObj.sem (ownA HX (H ++ [HObj.sem bareA]).length)))) ?ho ?hb ?hst ?hcd ?hns ?hnd ?hbind ?hbody ?hfin
 walk_at "t_of"
 case hbind => intro w xs ks rx rk; obtain ⟨_, rfl, h1⟩ := rx.inv1; obtain ⟨_, rfl⟩ := rk.inv; exact ⟨[_, _], .cons h1 (.cons .none .nil), Looks.of_peek c.X (by kernel_rfl)⟩
 case hbody =>
  intro env hS; dsimp only at hS
  exact (Ex.cons (Es.assign (Ev.ifFb (Tst.cmp (Ev.loc rfl) Ev.none (Cmp.isNotNone (b := false) (by (intro w x r; cases r; rfl)))) (by rfl) (Ev.lstT EvL.nil (Nat.le_of_ble_eq_true rfl) (by rfl))) (il hS rfl) rfl)
 (Ex.cons (Es.ifFb (Tst.cmp (Ev.call (gB (g_type _) (kind_of hS rfl)) (EvA.args (EvL.cons (Ev.loc rfl) EvL.nil)) (by exact Fn.typeOf (Typ.lst (Lsy.ref hl0)) (by decide)) Kp.typ) (gB (g_list _) (kind_of hS rfl)) Cmp.isNotT) (by decide) Ex.nil)
 (Ex.cons (Es.attr (hdr_cls _) (Ev.loc rfl) (Ev.loc rfl) hb0 (hdr_sa _) (hdr_h _) obj_h rfl)
 (Ex.one (Es.ifTb (Tst.val Ev.bool Tru.bool rfl) (by rfl) (Ex.one (Es.for (SrcE.of (Ev.loc rfl) (Src.lst (.ref hl1))) rfl (Fo.nil (.ref hl1)) (fun q_ q_ => rfl))))))))
 case hfin => first | exact Fin.ret | exact Fin.next
theorem fn_Headers (c : C1) (H : List HObj) : Fn c.ct 5 (.val (.ref 247)) [] [] H (H ++ [.sem (ownA HX (H.length + 1)), .list []]) (HdV H) := by
 have h := init_core c H
 rw [set_bare] at h
 have e : (H ++ [HObj.sem bareA]).length = H.length + 1 := by simp
 rw [e] at h
 exact Fn.make (hm_make c) (hm_init c) (hm_itype c) h
theorem fn_items0 (c : C1) (H : List HObj) {i j : Nat} {l : List V} (hj : H[j]? = some (.sem (ownA HX i))) (hi : H[i]? = some (.list l)) (hlen : l.length ≤ 16777216) : Fn c.ct 3 (.val (.ref 211)) [.sem (instA 247 j)] [] H H (.lst (pick l none none none)) := by
 refine' fnOf (ns := [Str.ofString "self"]) (vs := [.sem (instA 247 j)]) (o := .ret (.lst (pick l none none none)) H) ?ho ?hb ?hst ?hcd ?hns ?hnd ?hbind ?hbody ?hfin
 walk_at "t_of"
 case hbind => exact bind1 fun q_ => Looks.of_pure rfl
 case hbody =>
  intro env hS; dsimp only at hS
  exact (Ex.stop (Es.ret (Ev.sliceL (Ev.hdrs (Ev.loc rfl) hj) EvP.none EvP.none EvP.none (.ref hi) (by decide) (le_size hlen) (fun q_ q_ => ⟨_, rfl⟩))) (by intro _ _ h; cases h))
 case hfin => first | exact Fin.ret | exact Fin.next
theorem fn_items (c : C1) (H : List HObj) {i j : Nat} {l : List V} (hj : H[j]? = some (.sem (ownA HX i))) (hi : H[i]? = some (.list l)) (hlen : l.length ≤ 16777216) : Fn c.ct 3 (.val (.ref 211)) [.sem (instA 247 j)] [] H H (.lst l) := by
 have h := fn_items0 c H hj hi hlen
 rwa [pick_all] at h
theorem join_one {x y : Str} : Txt.join x [y] = y := rfl
theorem three_of {α : Type} {l : List α} (h : l.length = 3) : ∃ a b d, l = [a, b, d] := by
 obtain _ | ⟨a, _ | ⟨b, _ | ⟨d, _ | ⟨e, l⟩⟩⟩⟩ := l
 ·cases h
 ·cases h
 ·cases h
 ·exact ⟨a, b, d, rfl⟩
 ·cases h
theorem add_core (c : C1) (H : List HObj) {i j : Nat} {l : List V} (hj : H[j]? = some (.sem (ownA HX i))) (hi : H[i]? = some (.list l)) (hlen : l.length < 16777216) {x y : Str} (hx : Plain x) (hy : Plain y) : Fn c.ct 4 (.val (.ref 244)) [.sem (instA 247 j), .str x, .str y] [] H ((((H ++ [HObj.sem bareA]) ++ [HObj.list []]).set (H ++ [HObj.sem bareA]).length (HObj.list ([] ++ [V.str y]))).set i (HObj.list (l ++ [V.tup [V.str x, V.str (Txt.join (Str.ofString "; ") [y])]]))) .none := by
 have li : i < H.length := (List.getElem?_eq_some_iff.mp hi).1
 have lj : j < H.length := (List.getElem?_eq_some_iff.mp hj).1
 have g1 : ∀ k o, H[k]? = some o → ((H ++ [HObj.sem bareA]) ++ [HObj.list []])[k]? = some o := fun k o e => getElem?_append_some (getElem?_append_some e)
 have g2 : ∀ k o, k < H.length → H[k]? = some o → (((H ++ [HObj.sem bareA]) ++ [HObj.list []]).set (H ++ [HObj.sem bareA]).length (HObj.list ([] ++ [V.str y])))[k]? = some o := fun k o q e => by
  rw [List.getElem?_set_ne (by simp; lia)]; exact g1 k o e
 have hj1 := g1 _ _ hj
 have hj2 := g2 _ _ lj hj
 have hi2 := g2 _ _ li hi
 have hp0 : ((H ++ [HObj.sem bareA]) ++ [HObj.list []])[(H ++ [HObj.sem bareA]).length]? = some (.list []) := by simp
 have hp2 : (((H ++ [HObj.sem bareA]) ++ [HObj.list []]).set (H ++ [HObj.sem bareA]).length (HObj.list ([] ++ [V.str y])))[(H ++ [HObj.sem bareA]).length]? = some (.list ([y].map V.str)) := by rw [List.getElem?_set_self (by simp)]; rfl
 have hb2 : (((H ++ [HObj.sem bareA]) ++ [HObj.list []]).set (H ++ [HObj.sem bareA]).length (HObj.list ([] ++ [V.str y])))[H.length]? = some (.sem bareA) := by rw [List.getElem?_set_ne (by simp)]; simp
 refine' fnXOf (ns := [Str.ofString "self", Str.ofString "_name", Str.ofString "_value", Str.ofString "_params"]) (vs := [.sem (instA 247 j), .str x, .str y, .ref H.length]) (o := .next [(Str.ofString "_value", .str y), (Str.ofString "parts", .ref (H ++ [HObj.sem bareA]).length), (Str.ofString "self", .sem (instA 247 j)), (Str.ofString "_name", .str x), (Str.ofString "_value", .str y), (Str.ofString "_params", .ref H.length)] ((((H ++ [HObj.sem bareA]) ++ [HObj.list []]).set (H ++ [HObj.sem bareA]).length (HObj.list ([] ++ [V.str y]))).set i (HObj.list (l ++ [V.tup [V.str x, V.str (Txt.join (Str.ofString "; ") [y])]])))) ?ho ?hb ?hst ?hcd ?hns ?hnd ?hbind ?hbody ?hfin
 walk_at "t_of"
 case hbind => exact BindsX.kw (args := [.sem (instA 247 j), .str x, .str y]) (fun xs D hl => by obtain ⟨a, b, d, rfl⟩ := three_of hl; kernel_rfl)
 case hbody =>
  intro env hS; dsimp only at hS
  exact (Ex.cons (Es.assign (Ev.lstT EvL.nil (Nat.le_of_ble_eq_true rfl) (by rfl)) (il hS rfl) rfl)
 (Ex.cons (Es.ifTb (Tst.cmp (Ev.loc rfl) Ev.none (Cmp.isNotNone (b := true) (by (intro w x r; cases r; rfl)))) (by rfl) (Ex.cons (Es.assign (Ev.hdr (hm_conv _) (Ev.loc rfl) hj1 (EvA.kw (kv := [(Str.ofString "name", _)]) (EvL.cons (Ev.loc rfl) EvL.nil) (EvK.cons Ev.bool EvK.nil) (fun q_ => rfl) (fun q_ => rfl) (fun q_ => rfl)) (by exact conv_value c _ hy) rfl rfl) (il hS rfl) rfl)
 (Ex.one (Es.expr (Ev.meth (Ev.loc rfl) (EvL.cons (Ev.loc rfl) EvL.nil) (by exact Mth.append hp0 rfl (Nat.zero_le _)) (Typ.lst (.ref hp0)) rfl rfl rfl rfl (fun q_ q_ q_ q_ q_ h => Calls.evalArgs_plain h)) (in_of hS (by intro e he; cases e; dsimp only at he; subst he; rfl)) rfl))))
 (Ex.cons (Es.for (SrcE.of (Ev.meth0 (Ev.loc rfl) (by exact Mth.items hb2) (Typ.bare hb2) rfl rfl) (Src.items hb2)) rfl (Fo.nil hb2) (fun q_ q_ => rfl))
 (Ex.one (Es.expr (Ev.meth (Ev.hdrs (Ev.loc rfl) hj2) (EvL.cons (Ev.tup (EvL.cons (Ev.hdr (hm_conv _) (Ev.loc rfl) hj2 (EvA.kw (kv := [(Str.ofString "name", _)]) (EvL.cons (Ev.loc rfl) EvL.nil) (EvK.cons Ev.bool EvK.nil) (fun q_ => rfl) (fun q_ => rfl) (fun q_ => rfl)) (by exact conv_name c _ hx) rfl rfl) (EvL.cons (Ev.meth Ev.str (EvL.cons (Ev.loc rfl) EvL.nil) (by exact Mth.join (ns := [y]) (.ref hp2) (by show y.length + 0 + 1 * 2 ≤ 16777216; have := hy.2; lia)) Typ.str rfl rfl rfl rfl (fun q_ q_ q_ q_ q_ h => Calls.evalArgs_plain h)) EvL.nil))) EvL.nil) (by exact Mth.append hi2 rfl (le_size (Nat.le_of_lt hlen))) (Typ.lst (.ref hi2)) rfl rfl rfl rfl (fun q_ q_ q_ q_ q_ h => Calls.evalArgs_plain h)) (in_of hS (by intro e he; cases e; dsimp only at he; subst he; rfl)) rfl)))))
 case hfin => first | exact Fin.ret | exact Fin.next
theorem set_front {H K : List HObj} {i : Nat} {x : HObj} (h : i < H.length) : (H ++ K).set i x = H.set i x ++ K := List.set_append_left _ _ h
theorem cl_set {H : List HObj} {i : Nat} {l : List V} (h : Cl H) : Cl (H.set i (.list l)) := fun j P e => by
 rw [List.length_set]
 by_cases q : i = j
 ·subst q
  by_cases z : i < H.length
  ·rw [List.getElem?_set_self z] at e; cases e
  ·rw [List.getElem?_eq_none (by simp; exact Nat.le_of_not_lt (by assumption))] at e; cases e
 ·rw [List.getElem?_set_ne q] at e
  exact h j P e
theorem fn_add (c : C1) (H : List HObj) {i j : Nat} {l : List V} (hj : H[j]? = some (.sem (ownA HX i))) (hi : H[i]? = some (.list l)) (hlen : l.length < 16777216) {x y : Str} (hx : Plain x) (hy : Plain y) :
  Fn c.ct 4 (.val (.ref 244)) [.sem (instA 247 j), .str x, .str y] [] H (H.set i (.list (l ++ [.tup [.str x, .str y]]))) .none := by
 have li : i < H.length := (List.getElem?_eq_some_iff.mp hi).1
 have h := add_core c H hj hi hlen hx hy
 have e1 : ((H ++ [HObj.sem bareA]) ++ [HObj.list []]).set (H ++ [HObj.sem bareA]).length (HObj.list ([] ++ [V.str y])) = H ++ [HObj.sem bareA, HObj.list ([] ++ [V.str y])] := by
  rw [List.set_append_right _ _ (Nat.le_refl _), Nat.sub_self, List.append_assoc]; rfl
 rw [e1, set_front li, join_one] at h
 exact Fn.shed h (by simp) (.dat rfl) cl_set
theorem Fo.find {C : Ct} {n : Nat} {env : Env} {target : PySem.Expr} {body : List PySem.Stmt} {Ok : List HObj → Prop} {α : Type} {f r : α → V} {p : α → Bool} {σ : Loc} {H : List HObj} (ok : Ok H) {l : List α}
  (h1 : ∀ a ∈ l, p a = false → Turn C n env target body (f a) σ H σ H) (h2 : ∀ a ∈ l, p a = true → ∃ σ0, As C n env target (f a) σ H σ0 ∧ Ex C n env σ0 H body (.ret (r a) H)) {a : α} (h : l.find? p = some a) : Fo C n env target body Ok (l.map f) σ H (.ret (r a) H) := by
 induction l with
 | nil => cases h
 | cons b l ih =>
  rw [List.find?_cons] at h
  rw [List.map_cons]
  cases q : p b with
  | true =>
   rw [q] at h
   obtain rfl := Option.some.inj h
   obtain ⟨σ0, g⟩ := h2 b (.head _) q
   exact .ret ok g.1 g.2
  | false =>
   rw [q] at h
   obtain ⟨g1, g2, g3⟩ := h1 b (.head _) q
   exact .cons ok g1 g2 (.weak g3 (ih (fun a m => h1 a (.tail _ m)) (fun a m => h2 a (.tail _ m)) h))
theorem Fo.skip {C : Ct} {n : Nat} {env : Env} {target : PySem.Expr} {body : List PySem.Stmt} {Ok : List HObj → Prop} {α : Type} {f : α → V} {σ : Loc} {H : List HObj} (ok : Ok H) {l : List α}
  (h1 : ∀ a ∈ l, Turn C n env target body (f a) σ H σ H) : Fo C n env target body Ok (l.map f) σ H (.next σ H) := by
 induction l with
 | nil => exact .nil ok
 | cons b l ih =>
  obtain ⟨g1, g2, g3⟩ := h1 b (.head _)
  exact .cons ok g1 g2 (.weak g3 (ih fun a m => h1 a (.tail _ m)))
theorem fn_get_all (c : C1) (H : List HObj) {i j : Nat} {l : List (Str × Str)} (hj : H[j]? = some (.sem (ownA HX i))) (hi : H[i]? = some (.list (pairsV l))) (hlen : l.length ≤ 16777216) (hl : ∀ q ∈ l, q.1.length ≤ 100000) {x : Str} (hx0 : x.length ≤ 100000) (hx : Plain (Txt.lower x)) : Fn c.ct 4 (.val (.ref 186)) [.sem (instA 247 j), .str x] [] H H (.lst ((l.filter fun q => decide (Txt.lower q.1 = Txt.lower x)).map fun q => V.str q.2)) := by
 refine' fnOf (ns := [Str.ofString "self", Str.ofString "name"]) (vs := [.sem (instA 247 j), .str x]) (o := .ret (.lst ((l.filter fun q => decide (Txt.lower q.1 = Txt.lower x)).map fun q => V.str q.2)) H) ?ho ?hb ?hst ?hcd ?hns ?hnd ?hbind ?hbody ?hfin
 walk_at "t_of"
 case hbind => exact bind2 fun q_ q_ => Looks.of_pure rfl
 case hbody =>
  intro env hS; dsimp only at hS
  exact (Ex.cons (Es.assign (Ev.hdr (hm_conv _) (Ev.loc rfl) hj (EvA.kw (kv := [(Str.ofString "name", _)]) (EvL.cons (Ev.meth0 (Ev.loc rfl) (by exact Mth.lower hx0) (Typ.str) rfl rfl) EvL.nil) (EvK.cons Ev.bool EvK.nil) (fun q_ => rfl) (fun q_ => rfl) (fun q_ => rfl)) (by exact conv_name c _ hx) rfl rfl) (.inr (kind_of hS rfl)) rfl)
 (Ex.stop (Es.ret (Ev.compS hS (SrcE.of (Ev.hdrs (Ev.loc rfl) hj) (Src.lst (.ref hi))) rfl (fun K => (Lsy.ref hi).app) (by kernel_rfl) (fun cenv hC1 => (Co.pick (f := fun q : Str × Str => V.tup [.str q.1, .str q.2]) (p := fun q => decide (Txt.lower q.1 = Txt.lower x)) (g := fun q => V.str q.2) (fun q hq => ⟨_, (fun K => (Ast.name (.inl ⟨kind_of hC1 rfl, rfl⟩))), (fun K => (TstL.one (Tst.cmp (Ev.meth0 (Ev.sub (Ev.loc rfl) Ev.int (Itm.tup (j := 0) (by decide) (by decide) rfl rfl (fun q_ q_ => rfl))) (by exact Mth.lower (hl q hq)) (Typ.str) rfl rfl) (Ev.loc rfl) Cmp.eqS))), (fun q_ => ⟨(fun K => (Ev.sub (Ev.loc rfl) Ev.int (Itm.tup (j := 1) (by decide) (by decide) rfl rfl (fun q_ q_ => rfl)))), rfl⟩), (sub_cons rfl)⟩))) (le_size (by unfold pairsV; rw [List.length_map]; exact hlen)) (fun q_ q_ => rfl) (Nat.le_refl _))) (by intro _ _ h; cases h)))
 case hfin => first | exact Fin.ret | exact Fin.next
theorem fn_get_no (c : C1) (H : List HObj) {i j : Nat} {l : List (Str × Str)} (hj : H[j]? = some (.sem (ownA HX i))) (hi : H[i]? = some (.list (pairsV l))) (hlen : l.length ≤ 16777216) (hl : ∀ q ∈ l, q.1.length ≤ 100000) {x : Str} (hx0 : x.length ≤ 100000) (hx : Plain (Txt.lower x)) {D : V} (hno : ∀ q ∈ l, decide (Txt.lower q.1 = Txt.lower x) = false) : Fn c.ct 4 (.val (.ref 194)) [.sem (instA 247 j), .str x, D] [] H H (D) := by
 refine' fnOf (ns := [Str.ofString "self", Str.ofString "name", Str.ofString "default"]) (vs := [.sem (instA 247 j), .str x, D]) (o := .ret (D) H) ?ho ?hb ?hst ?hcd ?hns ?hnd ?hbind ?hbody ?hfin
 walk_at "t_of"
 case hbind => exact bind3 fun q_ q_ q_ => Looks.of_peek c.X (by kernel_rfl)
 case hbody =>
  intro env hS; dsimp only at hS
  exact (Ex.cons (Es.assign (Ev.hdr (hm_conv _) (Ev.loc rfl) hj (EvA.kw (kv := [(Str.ofString "name", _)]) (EvL.cons (Ev.meth0 (Ev.loc rfl) (by exact Mth.lower hx0) (Typ.str) rfl rfl) EvL.nil) (EvK.cons Ev.bool EvK.nil) (fun q_ => rfl) (fun q_ => rfl) (fun q_ => rfl)) (by exact conv_name c _ hx) rfl rfl) (il hS rfl) rfl)
 (Ex.cons (Es.for (SrcE.of (Ev.hdrs (Ev.loc rfl) hj) (Src.lst (.ref hi))) rfl (Fo.weak (σ' := [(Str.ofString "name", .str (Txt.lower x)), (Str.ofString "default", D)]) (subs_cons rfl (subs_cons rfl subs_nil)) (Fo.skip (f := fun q : Str × Str => V.tup [.str q.1, .str q.2]) (.ref hi) (fun q hq => (by have hb := hno q hq; exact Turn.mk (Ast.tup (AsL.cons (Ast.name (.inr ⟨(il hS rfl), rfl⟩)) (AsL.cons (Ast.name (.inr ⟨(il hS rfl), rfl⟩)) AsL.nil)) fw_nonSeq) (Ex.one (Es.ifFb (Tst.cmp (Ev.meth0 (Ev.loc rfl) (by exact Mth.lower (hl q hq)) (Typ.str) rfl rfl) (Ev.loc rfl) Cmp.eqS) (by exact hb) Ex.nil)) (subs_cons rfl (subs_cons rfl subs_nil)))))) (fun q_ q_ => rfl))
 (Ex.stop (Es.ret (Ev.loc rfl)) (by intro _ _ h; cases h))))
 case hfin => first | exact Fin.ret | exact Fin.next
section
section
variable {C : Ct} {n : Nat} {env : Env} {σ σ' σ1 : Loc} {H H' H0 H1 H2 H3 H4 : List HObj} {pos p p' pos' tpos : Pos} {k : Nat} {x id : Str} {u u' v v1 v2 : V} {e e1 e2 : PySem.Expr} {l l' : List V} {D f : Addr} {j i : Nat} {P : OAsrt}
theorem inst_at {w : Wd} {x : Value} (B : BSt C w H) (r : VRel w (.sem (instA D j)) x) (hj : H[j]? = some (.sem P)) : ∃ (q : Addr) (od : Addr × Obj), x = .ref q ∧ InstAt w.h q (instObj D od.1) D (some od.2) := by
 obtain ⟨q, d, rfl, _, hq, hd⟩ := r.inv
 obtain ⟨d', o, hd', ho, _⟩ := B.sem hj
 obtain rfl := Option.some.inj (hd.symm.trans hd')
 exact ⟨q, (d, o), rfl, hq, rfl, rfl, ho⟩
theorem Es.setI (hv : Ev C n env σ H e H1 v) (ho : Ev C n env σ H1 e1 H2 (.sem (instA D j))) (hi : Ev C n env σ H2 e2 H3 u) (hj : H3[j]? = some (.sem P)) (hq : noSeq C.K D = true) (hs : findIn C.K (.ref D) "__setitem__" = some (some (.ref f))) (hf : typeIn C.K (.ref f) = some (.type "function"))
  (hc : Fn C n (.val (.ref f)) [.sem (instA D j), u, v] [] H3 H4 u') (hsw : swapsWith e (some (.Subscript e1 e2 pos')) pos.line env = pure false) : Es C n env σ H (.Assign [.Subscript e1 e2 pos'] e pos) (.next σ H4) := by
 intro A w Q E R B F K
 refine wpAny_Assign_Subscript (hv A w _ E R B F fun w1 y S1 B1 F1 r1 => ho A w1 _ E R B1 F1 fun w2 dv S2 B2 F2 r2 => hi A w2 _ E R B2 F2 fun w3 iv S3 B3 F3 r3 => ?_) hsw
 have r2 := r2.step0 S3
 obtain ⟨q, od, rfl, I⟩ := inst_at B3 r2 hj
 unfold setItem sequenceKey
 refine wpAny_holding (wpAny_bind (wpAny_bind (I.type.here ?_)))
 refine wpAny_bind ((anyM_none B3.X hq).here ?_)
 rw [if_pos (show (!false) = true from rfl)]
 refine wpAny_pure (wpAny_bind (special_fn B3.X I hs hf ?_))
 refine wpAny_mono (hc A w3 (fun _ s => Q .next s) E (.ref f) [.ref q, iv, y] [] R B3 (.val _) (.cons r2 (.cons r3 (.cons ((r1.step0 S2).step0 S3) .nil))) .nil fun w4 z S4 B4 _ => K w4 _ (F.wide (S1.trans (S2.trans (S3.trans S4)))) (.next B4 (F3.step0 S4))) (fun _ _ z => wpAny_pure z) fun _ _ z => z
theorem Es.delI (ho : Ev C n env σ H e1 H1 (.sem (instA D j))) (hi : Ev C n env σ H1 e2 H2 u) (hj : H2[j]? = some (.sem P)) (hq : noSeq C.K D = true) (hs : findIn C.K (.ref D) "__delitem__" = some (some (.ref f))) (hf : typeIn C.K (.ref f) = some (.type "function"))
  (hc : Fn C n (.val (.ref f)) [.sem (instA D j), u] [] H2 H3 u') : Es C n env σ H (.Delete [.Subscript e1 e2 pos'] pos) (.next σ H3) := by
 intro A w Q E R B F K
 refine wpAny_Delete (wpAny_deleteEach_cons (wpAny_delete_Subscript (ho A w _ E R B F fun w1 dv S1 B1 F1 r1 => hi A w1 _ E R B1 F1 fun w2 iv S2 B2 F2 r2 => ?_)))
 have r1 := r1.step0 S2
 obtain ⟨q, od, rfl, I⟩ := inst_at B2 r1 hj
 unfold delItem sequenceKey
 refine wpAny_holding (wpAny_bind (wpAny_bind (I.type.here ?_)))
 refine wpAny_bind ((anyM_none B2.X hq).here ?_)
 rw [if_pos (show (!false) = true from rfl)]
 refine wpAny_pure (wpAny_bind (special_fn B2.X I hs hf ?_))
 refine wpAny_mono (hc A w2 (fun _ s => Q .next s) E (.ref f) [.ref q, iv] [] R B2 (.val _) (.cons r1 (.cons r2 .nil)) .nil fun w3 z S3 B3 _ => K w3 _ (F.wide (S1.trans (S2.trans S3))) (.next B3 (F2.step0 S3))) (fun _ _ z => wpAny_pure (wpAny_deleteEach_nil z)) fun _ _ z => z
theorem Es.setAll (hv : Ev C n env σ H e H1 (.lst l)) (ho : Ev C n env σ H1 e1 H2 (.ref i)) (hH : H2[i]? = some (.list l')) (hd : datL l = true) (hz : l.length + l'.length ≤ 1000000)
  (hsw : swapsWith e (some (.Subscript e1 (.Slice Option.none Option.none Option.none p) pos')) pos.line env = pure false) : Es C n env σ H (.Assign [.Subscript e1 (.Slice Option.none Option.none Option.none p) pos'] e pos) (.next σ (H2.set i (.list l))) := by
 intro A w Q E R B F K
 refine wpAny_Assign_Subscript (hv A w _ E R B F fun w1 y S1 B1 F1 r1 => ho A w1 _ E R B1 F1 fun w2 dv S2 B2 F2 r2 => ?_) hsw
 refine wpAny_Slice ?_
 rw [evalPart_none]
 refine wpAny_pure (wpAny_pure (wpAny_pure ?_))
 have r1 := r1.step0 S2
 obtain ⟨q, ys, m, rfl, ey, hq, ry⟩ := r1.inv
 obtain ⟨D, rfl, hD⟩ := r2.inv
 obtain ⟨D', xs, m', hD', ex, rx, dx⟩ := B2.get hH
 obtain rfl := Option.some.inj (hD.symm.trans hD')
 have hqD : q ≠ D := fun z => hq (z ▸ List.mem_of_getElem? hD)
 have X3 : Ext w2 ⟨w2.ρ, w2.π, { w2.s with heap := w2.s.heap.push { cls := .type "slice", data := .fields #[.none, .none, .none] } }⟩ := Ext.push _
 have hsl : (w2.s.heap.push { cls := .type "slice", data := .fields #[.none, .none, .none] }).IsSliceOf w2.s.heap.objs.size .none .none .none := Heap.IsSliceOf.new ..
 have B3 := B2.ext X3
 have F3 := F2.ext X3
 have ex3 := X3.keep _ _ ex
 have ey3 := X3.keep _ _ ey
 have ry3 := ry.ext X3
 have S13 := S1.trans (S2.trans X3.step)
 generalize (w2.s.heap.push { cls := .type "slice", data := .fields #[.none, .none, .none] }) = h3 at hsl B3 F3 ex3 ey3 ry3 S13 ⊢
 obtain ⟨os, hos, hcs, hds⟩ := id hsl
 have hTs : ({ w2.s with heap := h3 } : Shared).TypeIs (.ref w2.s.heap.objs.size) "slice" := ⟨os, hos, hcs⟩
 have hTl : ({ w2.s with heap := h3 } : Shared).TypeIs (.ref D) "list" := ⟨_, ex3, rfl⟩
 unfold setItem
 refine wpAny_holding (wpAny_bind (wpAny_sequenceKey hTl (by decide) ?_))
 refine wpAny_bind (wpAny_callSpecial?_slot (name := Str.ofString "__setitem__") hTl PySem.F.slot_list_setitem (wpAny_call_entry PySem.F.slot_list_setitem hTl PySem.F.entry_list_setitem ?_ (PySem.F.args_list_setitem_3 _ _ _)))
 show wpAny _ _ (Builtin.List.listSubscript? (.ref w2.s.heap.objs.size) >>= _) _ _ _
 refine wpAny_bind ?_
 unfold Builtin.List.listSubscript?
 refine wpAny_bind (wpAny_specialOf hTs slice_no_index ?_)
 simp only [Option.isNone_none, if_true]
 refine wpAny_pure ?_
 show wpAny _ _ (typeOf (.ref w2.s.heap.objs.size) >>= _) _ _ _
 refine wpAny_bind (wpAny_typeOf hTs ?_)
 rw [if_neg (by decide)]
 rw [listSliceParts_eq]
 refine wpAny_bind (wpAny_bind (wpAny_field hos hds (x := .none) rfl (wpAny_bind (wpAny_listPart .none ?_))))
 rw [if_neg (by exact Bool.false_ne_true)]
 refine wpAny_bind (wpAny_field hos hds (x := .none) rfl (wpAny_bind (wpAny_listPart .none ?_)))
 refine wpAny_bind (wpAny_field hos hds (x := .none) rfl (wpAny_bind (wpAny_listPart .none (wpAny_pure ?_))))
 have hsame : Builtin.List.listSameRef (.ref D) (.ref q) = false := by
  show (D == q) = false
  exact beq_eq_false_iff_ne.mpr fun z => hqD z.symm
 have hTq : ({ w2.s with heap := h3 } : Shared).TypeIs (.ref q) "list" := ⟨_, ey3, rfl⟩
 rw [if_neg (by rw [hsame]; decide)]
 refine wpAny_bind ?_
 unfold Builtin.List.listAllItems
 refine wpAny_bind (wpAny_typeOf hTq ?_)
 rw [if_pos (by decide)]
 refine listItems_at ey3 rfl ?_
 refine wpAny_bind (listItems_at ex3 rfl ?_)
 refine wpAny_bind (wpAny_of_eq (sliceIndices_raw none none none xs.toArray.size (by simp)) ?_)
 have lx := rx.length
 have ly := ry.length
 show wpAny _ _ (if ((1 : Int) == 1) = true then _ else _) _ _ _
 rw [if_pos (by decide)]
 refine wpAny_bind (wpAny_rule ?_)
 rw [if_neg (by unfold Builtin.List.listTooLong; rw [List.size_toArray, List.size_toArray, sizeLine_eq]; simp; lia)]
 have ef : (xs.toArray.extract 0 (0 : Int).toNat ++ ys.toArray ++ xs.toArray.extract (max (0 : Int) (xs.toArray.size : Int)).toNat xs.toArray.size) = ys.toArray := by
  have e1 : (max (0 : Int) (xs.toArray.size : Int)).toNat = xs.toArray.size := by rfl
  rw [e1]
  simp
 refine wpAny_bind (listUpdate_at ex3 rfl ?_ (by rw [List.size_toArray, sizeLine_eq]; lia) ?_)
 ·refine wpAny_bind (wpAny_letGo (wpAny_pure ⟨_, rfl, wpAny_pure ?_⟩))
  obtain ⟨c, hc⟩ : ∃ c, (h3.update D (Obj.mapSeq fun xs' => xs'.extract 0 (0 : Int).toNat ++ ys.toArray ++ xs'.extract (max (0 : Int) (xs.toArray.size : Int)).toNat xs'.size)).get? D = some (seqObj "list" (xs.toArray.extract 0 (0 : Int).toNat ++ ys.toArray ++ xs.toArray.extract (max (0 : Int) (xs.toArray.size : Int)).toNat xs.toArray.size) c) := ⟨_, get?_update_seq ex3 _⟩
  rw [ef] at hc
  obtain ⟨B4, S4⟩ := turnL B3 hD (Heap.SameBut.update _ _ _) hc ry3 hd
  exact K ⟨w2.ρ, w2.π, _⟩ _ (F.wide (S13.trans S4)) (.next B4 (F3.step0 S4))
 ·exact Nat.le_trans (Nat.le_of_eq (congrArg Array.size ef)) (by rw [List.size_toArray, sizeLine_eq]; lia)
end
end
theorem bind2d {C : Ct} {fd : FuncData} {ns : List Str} {u v : V} (h : ∀ a b, Looks C.M C.h₀ (bindArgs fd ⟨[a, b], []⟩) (ns.zip [a, b, .none])) : Binds C fd [u, v] [] ns [u, v, .none] := fun q_ xs ks rx rk => by
 obtain ⟨a, b, rfl, _⟩ := rx.inv2
 obtain rfl := rk.inv0
 exact ⟨[a, b, .none], rx.append (.cons .none .nil), h a b⟩
theorem str_some {x : Str} : ∀ (w : Wd) y, VRel w (.str x) y → (y == Value.none) = false := fun q_ q_ r => by obtain ⟨_, rfl⟩ := r.inv; rfl
theorem none_none : ∀ (w : Wd) y, VRel w V.none y → (y == Value.none) = true := fun q_ q_ r => by obtain rfl := r.inv; rfl
theorem hm_noseq (c : C1) : noSeq (hd02.heap_39 c.w.params) 247 = true := by k_is
theorem hm_set (c : C1) : findIn (hd02.heap_39 c.w.params) (.ref 247) "__setitem__" = some (some (.ref 162)) := by k_is
theorem hm_setT (c : C1) : typeIn (hd02.heap_39 c.w.params) (.ref 162) = some (.type "function") := by k_is
theorem hm_del (c : C1) : findIn (hd02.heap_39 c.w.params) (.ref 247) "__delitem__" = some (some (.ref 167)) := by k_is
theorem hm_delT (c : C1) : typeIn (hd02.heap_39 c.w.params) (.ref 167) = some (.type "function") := by k_is
theorem hm_keys (c : C1) : HM c "keys" 199 := by
 refine' HM.of ?k1 ?k2 ?k3 ?k4 ?k5 ?k6
 case k1 => kernel_rfl
 case k2 => k_is
 case k3 => rfl
 case k4 => k_is
 case k5 => rw [typeLookup_type, builtinLookup_eq_fast]; kernel_rfl
 case k6 => decide
theorem hm_setdefault (c : C1) : HM c "setdefault" 237 := by
 refine' HM.of ?k1 ?k2 ?k3 ?k4 ?k5 ?k6
 case k1 => kernel_rfl
 case k2 => k_is
 case k3 => rfl
 case k4 => k_is
 case k5 => rw [typeLookup_type, builtinLookup_eq_fast]; kernel_rfl
 case k6 => decide
noncomputable abbrev low (x : Str) : Str := Txt.lower x
noncomputable abbrev isK (x : Str) (q : Str × Str) : Bool := decide (low q.1 = low x)
theorem fn_keys (c : C1) (H : List HObj) {i j : Nat} {l : List (Str × Str)} (hj : H[j]? = some (.sem (ownA HX i))) (hi : H[i]? = some (.list (pairsV l))) (hlen : l.length ≤ 1000) : Fn c.ct 3 (.val (.ref 199)) [.sem (instA 247 j)] [] H H (.lst (l.map fun q => V.str q.1)) := by
 refine' fnOf (ns := ["self"]) (vs := [.sem (instA 247 j)]) (o := .ret (.lst (l.map fun q => V.str q.1)) H) ?ho ?hb ?hst ?hcd ?hns ?hnd ?hbind ?hbody ?hfin
 walk_at "t_of"
 case hbind => exact bind1 fun q_ => Looks.of_pure rfl
 case hbody =>
  intro env hS; dsimp only at hS
  exact (Ex.stop (Es.ret (Ev.compS hS (SrcE.of (Ev.hdrs (Ev.loc rfl) hj) (Src.lst (.ref hi))) rfl (fun K => (Lsy.ref hi).app) (by kernel_rfl) (fun cenv hC1 => (Co.map (f := fun q : Str × Str => V.tup [.str q.1, .str q.2]) (g := fun q => V.str q.1) (fun q hq => ⟨_, (fun K => (Ast.tup (AsL.cons (Ast.name (.inl ⟨kind_of hC1 rfl, rfl⟩)) (AsL.cons (Ast.name (.inl ⟨kind_of hC1 rfl, rfl⟩)) AsL.nil)) locals_nonSeq)), (fun K => (Ev.loc rfl)), rfl, (sub_two rfl rfl)⟩))) (le_size (by unfold pairsV; rw [List.length_map]; omega)) (fun q_ q_ => rfl) (Nat.le_refl _))) (by intro _ _ h; cases h))
 case hfin => first | exact Fin.ret | exact Fin.next
theorem fn_get2 (c : C1) (H : List HObj) {i j : Nat} {l : List (Str × Str)} (hj : H[j]? = some (.sem (ownA HX i))) (hi : H[i]? = some (.list (pairsV l))) (hlen : l.length ≤ 1000) (hl : ∀ q ∈ l, q.1.length ≤ 100000) {x : Str} (hx0 : x.length ≤ 100000) (hx : Plain (low x)) {a : Str × Str} (hfind : l.find? (isK x) = some a) : Fn c.ct 4 (.val (.ref 194)) [.sem (instA 247 j), .str x] [] H H (.str a.2) := by
 refine' fnOf (ns := ["self", "name", "default"]) (vs := [.sem (instA 247 j), .str x, .none]) (o := .ret (.str a.2) H) ?ho ?hb ?hst ?hcd ?hns ?hnd ?hbind ?hbody ?hfin
 walk_at "t_of"
 case hbind => exact bind2d fun q_ q_ => Looks.of_peek c.X (by kernel_rfl)
 case hbody =>
  intro env hS; dsimp only at hS
  exact (Ex.cons (Es.assign (Ev.hdr (hm_conv _) (Ev.loc rfl) hj (EvA.kw (kv := [("name", _)]) (EvL.cons (Ev.meth0 (Ev.loc rfl) (Mth.lower hx0) Typ.str rfl rfl) EvL.nil) (EvK.cons Ev.bool EvK.nil) (fun q_ => rfl) (fun q_ => rfl) (fun q_ => rfl)) (conv_name c _ hx) rfl rfl) (il hS rfl) rfl)
 (Ex.stop (Es.for (SrcE.of (Ev.hdrs (Ev.loc rfl) hj) (Src.lst (.ref hi))) rfl (Fo.weak (σ' := [("name", .str (low x)), ("default", .none)]) (subs_cons rfl (subs_cons rfl subs_nil)) (Fo.find (f := fun q : Str × Str => V.tup [.str q.1, .str q.2]) (r := fun q => V.str q.2) (p := isK x) (.ref hi) (fun q hq hb => Turn.mk (Ast.tup (AsL.cons (Ast.name (.inr ⟨(il hS rfl), rfl⟩)) (AsL.cons (Ast.name (.inr ⟨(il hS rfl), rfl⟩)) AsL.nil)) fw_nonSeq) (Ex.one (Es.ifFb (Tst.cmp (Ev.meth0 (Ev.loc rfl) (Mth.lower (hl q hq)) Typ.str rfl rfl) (Ev.loc rfl) Cmp.eqS) hb Ex.nil)) (subs_cons rfl (subs_cons rfl subs_nil))) (fun q hq hb => ⟨_, (Ast.tup (AsL.cons (Ast.name (.inr ⟨(il hS rfl), rfl⟩)) (AsL.cons (Ast.name (.inr ⟨(il hS rfl), rfl⟩)) AsL.nil)) fw_nonSeq), (Ex.stop (Es.ifTb (Tst.cmp (Ev.meth0 (Ev.loc rfl) (Mth.lower (hl q hq)) Typ.str rfl rfl) (Ev.loc rfl) Cmp.eqS) hb (Ex.stop (Es.ret (Ev.loc rfl)) (by intro _ _ h; cases h))) (by intro _ _ h; cases h))⟩) hfind)) (fun q_ q_ => rfl)) (by intro _ _ h; cases h)))
 case hfin => first | exact Fin.ret | exact Fin.next
theorem fn_get2_no (c : C1) (H : List HObj) {i j : Nat} {l : List (Str × Str)} (hj : H[j]? = some (.sem (ownA HX i))) (hi : H[i]? = some (.list (pairsV l))) (hlen : l.length ≤ 1000) (hl : ∀ q ∈ l, q.1.length ≤ 100000) {x : Str} (hx0 : x.length ≤ 100000) (hx : Plain (low x)) (hno : ∀ q ∈ l, isK x q = false) : Fn c.ct 4 (.val (.ref 194)) [.sem (instA 247 j), .str x] [] H H (.none) := by
 refine' fnOf (ns := ["self", "name", "default"]) (vs := [.sem (instA 247 j), .str x, .none]) (o := .ret (.none) H) ?ho ?hb ?hst ?hcd ?hns ?hnd ?hbind ?hbody ?hfin
 walk_at "t_of"
 case hbind => exact bind2d fun q_ q_ => Looks.of_peek c.X (by kernel_rfl)
 case hbody =>
  intro env hS; dsimp only at hS
  exact (Ex.cons (Es.assign (Ev.hdr (hm_conv _) (Ev.loc rfl) hj (EvA.kw (kv := [("name", _)]) (EvL.cons (Ev.meth0 (Ev.loc rfl) (Mth.lower hx0) Typ.str rfl rfl) EvL.nil) (EvK.cons Ev.bool EvK.nil) (fun q_ => rfl) (fun q_ => rfl) (fun q_ => rfl)) (conv_name c _ hx) rfl rfl) (il hS rfl) rfl)
 (Ex.cons (Es.for (SrcE.of (Ev.hdrs (Ev.loc rfl) hj) (Src.lst (.ref hi))) rfl (Fo.weak (σ' := [("name", .str (low x)), ("default", .none)]) (subs_cons rfl (subs_cons rfl subs_nil)) (Fo.skip (f := fun q : Str × Str => V.tup [.str q.1, .str q.2]) (.ref hi) (fun q hq => (by have hb := hno q hq; exact Turn.mk (Ast.tup (AsL.cons (Ast.name (.inr ⟨(il hS rfl), rfl⟩)) (AsL.cons (Ast.name (.inr ⟨(il hS rfl), rfl⟩)) AsL.nil)) fw_nonSeq) (Ex.one (Es.ifFb (Tst.cmp (Ev.meth0 (Ev.loc rfl) (Mth.lower (hl q hq)) Typ.str rfl rfl) (Ev.loc rfl) Cmp.eqS) hb Ex.nil)) (subs_cons rfl (subs_cons rfl subs_nil)))))) (fun q_ q_ => rfl))
 (Ex.stop (Es.ret (Ev.loc rfl)) (by intro _ _ h; cases h))))
 case hfin => first | exact Fin.ret | exact Fin.next
theorem fn_setdefault (c : C1) (H : List HObj) {i j : Nat} {l : List (Str × Str)} (hj : H[j]? = some (.sem (ownA HX i))) (hi : H[i]? = some (.list (pairsV l))) (hlen : l.length ≤ 1000) (hl : ∀ q ∈ l, q.1.length ≤ 100000) {x : Str} (hx0 : x.length ≤ 100000) (hx : Plain (low x)) {y : Str} {a : Str × Str} (hfind : l.find? (isK x) = some a) : Fn c.ct 5 (.val (.ref 237)) [.sem (instA 247 j), .str x, .str y] [] H H (.str a.2) := by
 refine' fnOf (ns := ["self", "name", "value"]) (vs := [.sem (instA 247 j), .str x, .str y]) (o := .ret (.str a.2) H) ?ho ?hb ?hst ?hcd ?hns ?hnd ?hbind ?hbody ?hfin
 walk_at "t_of"
 case hbind => exact bind3 fun q_ q_ q_ => Looks.of_pure rfl
 case hbody =>
  intro env hS; dsimp only at hS
  exact (Ex.cons (Es.assign (Ev.hdr (hm_get _) (Ev.loc rfl) hj (EvA.args (EvL.cons (Ev.loc rfl) EvL.nil)) (fn_get2 c _ hj hi hlen hl hx0 hx hfind) rfl rfl) (il hS rfl) rfl)
 (Ex.stop (Es.ifFb (Tst.cmp (Ev.loc rfl) Ev.none (Cmp.isNone (b := false) str_some)) (by rfl) (Ex.stop (Es.ret (Ev.loc rfl)) (by intro _ _ h; cases h))) (by intro _ _ h; cases h)))
 case hfin => first | exact Fin.ret | exact Fin.next
theorem setdefault_no (c : C1) (H : List HObj) {i j : Nat} {l : List (Str × Str)} (hj : H[j]? = some (.sem (ownA HX i))) (hi : H[i]? = some (.list (pairsV l))) (hlen : l.length ≤ 1000) (hl : ∀ q ∈ l, q.1.length ≤ 100000) {x : Str} (hx0 : x.length ≤ 100000) (hx : Plain (low x)) (hX : Plain x) {y : Str} (hY : Plain y) (hno : ∀ q ∈ l, isK x q = false) : Fn c.ct 5 (.val (.ref 237)) [.sem (instA 247 j), .str x, .str y] [] H (H.set i (.list (pairsV l ++ [.tup [.str x, .str y]]))) (.str y) := by
 refine' fnOf (ns := ["self", "name", "value"]) (vs := [.sem (instA 247 j), .str x, .str y]) (o := .ret (.str y) (H.set i (.list (pairsV l ++ [.tup [.str x, .str y]])))) ?ho ?hb ?hst ?hcd ?hns ?hnd ?hbind ?hbody ?hfin
 walk_at "t_of"
 case hbind => exact bind3 fun q_ q_ q_ => Looks.of_pure rfl
 case hbody =>
  intro env hS; dsimp only at hS
  exact (Ex.cons (Es.assign (Ev.hdr (hm_get _) (Ev.loc rfl) hj (EvA.args (EvL.cons (Ev.loc rfl) EvL.nil)) (fn_get2_no c _ hj hi hlen hl hx0 hx hno) rfl rfl) (il hS rfl) rfl)
 (Ex.stop (Es.ifTb (Tst.cmp (Ev.loc rfl) Ev.none (Cmp.isNone (b := true) none_none)) (by rfl) (Ex.cons (Es.expr (Ev.meth (Ev.hdrs (Ev.loc rfl) hj) (EvL.cons (Ev.tup (EvL.cons (Ev.hdr (hm_conv _) (Ev.loc rfl) hj (EvA.kw (kv := [("name", _)]) (EvL.cons (Ev.loc rfl) EvL.nil) (EvK.cons Ev.bool EvK.nil) (fun q_ => rfl) (fun q_ => rfl) (fun q_ => rfl)) ((conv_name c _ hX).le (by decide)) rfl rfl) (EvL.cons (Ev.hdr (hm_conv _) (Ev.loc rfl) hj (EvA.kw (kv := [("name", _)]) (EvL.cons (Ev.loc rfl) EvL.nil) (EvK.cons Ev.bool EvK.nil) (fun q_ => rfl) (fun q_ => rfl) (fun q_ => rfl)) ((conv_value c _ hY).le (by decide)) rfl rfl) EvL.nil))) EvL.nil) (Mth.append hi rfl (le_size (by unfold pairsV; rw [List.length_map]; omega))) (Typ.lst (.ref hi)) rfl rfl rfl rfl (fun q_ q_ q_ q_ q_ h => Calls.evalArgs_plain h)) (in_of hS (by intro e he; cases e; dsimp only at he; subst he; rfl)) rfl)
 (Ex.stop (Es.ret (Ev.loc rfl)) (by intro _ _ h; cases h)))) (by intro _ _ h; cases h)))
 case hfin => first | exact Fin.ret | exact Fin.next
theorem pairs_dat (l : List (Str × Str)) : datL (pairsV l) = true := datL_iff.mpr fun v m => by
 obtain ⟨q, _, rfl⟩ := List.mem_map.mp m; rfl
theorem fn_delitem (c : C1) (H : List HObj) {i j : Nat} {l : List (Str × Str)} (hj : H[j]? = some (.sem (ownA HX i))) (hi : H[i]? = some (.list (pairsV l))) (hlen : l.length ≤ 1000) (hl : ∀ q ∈ l, q.1.length ≤ 100000) {x : Str} (hx0 : x.length ≤ 100000) (hx : Plain (low x)) : Fn c.ct 4 (.val (.ref 167)) [.sem (instA 247 j), .str x] [] H (H.set i (.list (pairsV (l.filter fun q => !isK x q)))) .none := by
 refine' fnOf (ns := ["self", "name"]) (vs := [.sem (instA 247 j), .str x]) (o := .next [("name", .str (low x)), ("self", .sem (instA 247 j)), ("name", .str x)] (H.set i (.list (pairsV (l.filter fun q => !isK x q))))) ?ho ?hb ?hst ?hcd ?hns ?hnd ?hbind ?hbody ?hfin
 walk_at "t_of"
 case hbind => exact bind2 fun q_ q_ => Looks.of_pure rfl
 case hbody =>
  intro env hS; dsimp only at hS
  exact (Ex.cons (Es.assign (Ev.hdr (hm_conv _) (Ev.loc rfl) hj (EvA.kw (kv := [("name", _)]) (EvL.cons (Ev.meth0 (Ev.loc rfl) (Mth.lower hx0) Typ.str rfl rfl) EvL.nil) (EvK.cons Ev.bool EvK.nil) (fun q_ => rfl) (fun q_ => rfl) (fun q_ => rfl)) (conv_name c _ hx) rfl rfl) (.inr (kind_of hS rfl)) rfl)
 (Ex.one (Es.setAll (Ev.compS hS (SrcE.of (Ev.hdrs (Ev.loc rfl) hj) (Src.lst (.ref hi))) rfl (fun K => (Lsy.ref hi).app) (by kernel_rfl) (fun cenv hC1 => (Co.pick (f := fun q : Str × Str => V.tup [.str q.1, .str q.2]) (p := fun q => !isK x q) (g := fun q : Str × Str => V.tup [.str q.1, .str q.2]) (fun q hq => ⟨_, (fun K => (Ast.name (.inl ⟨kind_of hC1 rfl, rfl⟩))), (fun K => (TstL.one (Tst.cmp (Ev.meth0 (Ev.sub (Ev.loc rfl) Ev.int (Itm.tup (j := 0) (by decide) (by decide) rfl rfl (fun q_ q_ => rfl))) (Mth.lower (hl q hq)) Typ.str rfl rfl) (Ev.loc rfl) Cmp.neS))), (fun q_ => ⟨(fun K => (Ev.loc rfl)), rfl⟩), (sub_cons rfl)⟩))) (le_size (by unfold pairsV; rw [List.length_map]; omega)) (fun q_ q_ => rfl) (Nat.le_refl _)) (Ev.hdrs (Ev.loc rfl) hj) hi (pairs_dat _) (by have := List.length_filter_le (fun q => !isK x q) l; unfold pairsV; rw [List.length_map, List.length_map]; omega) rfl)))
 case hfin => first | exact Fin.ret | exact Fin.next
theorem setitem_core (c : C1) (H : List HObj) {i j : Nat} {l : List (Str × Str)} (hj : H[j]? = some (.sem (ownA HX i))) (hi : H[i]? = some (.list (pairsV l))) (hlen : l.length ≤ 1000) (hl : ∀ q ∈ l, q.1.length ≤ 100000) {x : Str} (hx0 : x.length ≤ 100000) (hx : Plain (low x)) (hX : Plain x) {y : Str} (hY : Plain y) : Fn c.ct 5 (.val (.ref 162)) [.sem (instA 247 j), .str x, .str y] [] H ((H.set i (.list (pairsV (l.filter fun q => !isK x q)))).set i (.list (pairsV (l.filter fun q => !isK x q) ++ [.tup [.str x, .str y]]))) .none := by
 have li : i < H.length := (List.getElem?_eq_some_iff.mp hi).1
 have hji : j ≠ i := fun z => by rw [z, hi] at hj; cases hj
 have hi1 : (H.set i (.list (pairsV (l.filter fun q => !isK x q))))[i]? = some (.list (pairsV (l.filter fun q => !isK x q))) := List.getElem?_set_self li
 have hj1 : (H.set i (.list (pairsV (l.filter fun q => !isK x q))))[j]? = some (.sem (ownA HX i)) := by rw [List.getElem?_set_ne hji.symm]; exact hj
 refine' fnOf (ns := ["self", "name", "val"]) (vs := [.sem (instA 247 j), .str x, .str y]) (o := .next [("self", .sem (instA 247 j)), ("name", .str x), ("val", .str y)] ((H.set i (.list (pairsV (l.filter fun q => !isK x q)))).set i (.list (pairsV (l.filter fun q => !isK x q) ++ [.tup [.str x, .str y]])))) ?ho ?hb ?hst ?hcd ?hns ?hnd ?hbind ?hbody ?hfin
 walk_at "t_of"
 case hbind => exact bind3 fun q_ q_ q_ => Looks.of_pure rfl
 case hbody =>
  intro env hS; dsimp only at hS
  exact (Ex.cons (Es.delI (Ev.loc rfl) (Ev.loc rfl) hj (hm_noseq c) (hm_del c) (hm_delT c) (fn_delitem c H hj hi hlen hl hx0 hx))
 (Ex.one (Es.expr (Ev.meth (Ev.hdrs (Ev.loc rfl) hj1) (EvL.cons (Ev.tup (EvL.cons (Ev.hdr (hm_conv _) (Ev.loc rfl) hj1 (EvA.kw (kv := [("name", _)]) (EvL.cons (Ev.loc rfl) EvL.nil) (EvK.cons Ev.bool EvK.nil) (fun q_ => rfl) (fun q_ => rfl) (fun q_ => rfl)) ((conv_name c _ hX).le (by decide)) rfl rfl) (EvL.cons (Ev.hdr (hm_conv _) (Ev.loc rfl) hj1 (EvA.kw (kv := [("name", _)]) (EvL.cons (Ev.loc rfl) EvL.nil) (EvK.cons Ev.bool EvK.nil) (fun q_ => rfl) (fun q_ => rfl) (fun q_ => rfl)) ((conv_value c _ hY).le (by decide)) rfl rfl) EvL.nil))) EvL.nil) (Mth.append hi1 rfl (le_size (by have := List.length_filter_le (fun q => !isK x q) l; unfold pairsV; rw [List.length_map]; omega))) (Typ.lst (.ref hi1)) rfl rfl rfl rfl (fun q_ q_ q_ q_ q_ h => Calls.evalArgs_plain h)) (in_of hS (by intro e he; cases e; dsimp only at he; subst he; rfl)) rfl)))
 case hfin => first | exact Fin.ret | exact Fin.next
theorem pairs_app (l : List (Str × Str)) (x y : Str) : pairsV l ++ [.tup [.str x, .str y]] = pairsV (l ++ [(x, y)]) := (List.map_append (f := fun p : Str × Str => V.tup [.str p.1, .str p.2]) (l₁ := l) (l₂ := [(x, y)])).symm
theorem fn_setitem (c : C1) (H : List HObj) {i j : Nat} {l : List (Str × Str)} (hj : H[j]? = some (.sem (ownA HX i))) (hi : H[i]? = some (.list (pairsV l))) (hlen : l.length ≤ 1000) (hl : ∀ q ∈ l, q.1.length ≤ 100000) {x : Str} (hx0 : x.length ≤ 100000) (hx : Plain (low x)) (hX : Plain x) {y : Str} (hY : Plain y) : Fn c.ct 5 (.val (.ref 162)) [.sem (instA 247 j), .str x, .str y] [] H (H.set i (.list (pairsV ((l.filter fun q => !isK x q) ++ [(x, y)])))) .none := by
 have h := setitem_core c H hj hi hlen hl hx0 hx hX hY
 rw [List.set_set, pairs_app] at h; exact h
theorem fn_setdefault_no (c : C1) (H : List HObj) {i j : Nat} {l : List (Str × Str)} (hj : H[j]? = some (.sem (ownA HX i))) (hi : H[i]? = some (.list (pairsV l))) (hlen : l.length ≤ 1000) (hl : ∀ q ∈ l, q.1.length ≤ 100000) {x : Str} (hx0 : x.length ≤ 100000) (hx : Plain (low x)) (hX : Plain x) {y : Str} (hY : Plain y) (hno : ∀ q ∈ l, isK x q = false) : Fn c.ct 5 (.val (.ref 237)) [.sem (instA 247 j), .str x, .str y] [] H (H.set i (.list (pairsV (l ++ [(x, y)])))) (.str y) := by
 have h := setdefault_no c H hj hi hlen hl hx0 hx hX hY hno
 rw [pairs_app] at h; exact h
section
section
variable {C : Ct} {n : Nat} {H : List HObj} {a b : Int}
theorem Fn.range2 : Fn C n (.val (.type "range")) [.int a, .int b] [] H H (.rng a b) := by
 intro A w Q E g xs ks R B rg rx rk K
 obtain ⟨_, rfl⟩ := rg.inv
 obtain ⟨x, y, rfl, r1, r2⟩ := rx.inv2
 obtain rfl := rk.inv0
 obtain ⟨t0, rfl⟩ := r1.inv
 obtain ⟨t1, rfl⟩ := r2.inv
 refine call_range_2 ?_
 have X1 : Ext w ⟨w.ρ, w.π, { w.s with heap := w.s.heap.push { cls := .type "range", data := .fields #[.int a t0, Value.int b t1, .int 1 w.s.toks] }, toks := w.s.toks + 1 }⟩ := ⟨rfl, fun q_ q_ e => Heap.get?_push_of_some _ e, rfl, rfl, rfl, Nat.le_succ _⟩
 exact K ⟨w.ρ, w.π, _⟩ _ X1.step (B.ext X1) (.sem ⟨_, _, _, _, rfl, B.fresh (size_none _), Heap.get?_push_size _ rfl⟩)
end
theorem pick_mid {α : Type} (l : List α) (a b : Nat) : pick l (some (a : Int)) (some (b : Int)) none = (l.drop a).take (b - a) := by
 have e : sliceBounds (some (a : Int)) (some (b : Int)) none l.length = (((min a l.length : Nat) : Int), ((min b l.length : Nat) : Int), 1) := by
  simp only [sliceBounds, Option.getD_none]
  have h1 : ¬ ((a : Int) < 0) := by lia
  have h2 : ¬ ((b : Int) < 0) := by lia
  simp only [h1, h2, if_false, show (1 : Int) > 0 by decide, if_true]
  refine Prod.ext ?_ (Prod.ext ?_ rfl) <;> simp only <;> omega
 unfold pick
 rw [e]
 simp only [sliceRange_1, pick_run']
 rcases Nat.le_total a l.length with h | h
 ·rw [Nat.min_eq_left h]
  rcases Nat.le_total b l.length with k | k
  ·rw [Nat.min_eq_left k]
  ·rw [Nat.min_eq_right k, List.take_of_length_le (by rw [List.length_drop]; exact Nat.le_refl _), List.take_of_length_le (by rw [List.length_drop]; omega)]
 ·rw [Nat.min_eq_right h, List.drop_of_length_le (Nat.le_refl _), List.drop_of_length_le h]; simp
theorem fm_get {α : Type} {l : List α} {f : Nat → Nat} : ∀ {m : Nat}, (∀ k, k < m → f k < l.length) → (((List.range m).map f).filterMap (l[·]?)).length = m ∧ ∀ i, i < m → (((List.range m).map f).filterMap (l[·]?))[i]? = l[f i]?
 | 0, _ => ⟨rfl, fun i h => absurd h (Nat.not_lt_zero _)⟩
 | m + 1, h => by
  obtain ⟨h1, h2⟩ := fm_get (m := m) fun k q => h k (Nat.lt_succ_of_lt q)
  have e : ((List.range (m + 1)).map f).filterMap (l[·]?) = ((List.range m).map f).filterMap (l[·]?) ++ [l[f m]'(h m (Nat.lt_succ_self m))] := by
   rw [List.range_succ, List.map_append, List.filterMap_append]
   simp [h m (Nat.lt_succ_self m)]
  rw [e]
  refine ⟨by rw [List.length_append, h1]; rfl, fun i hi => ?_⟩
  rcases Nat.lt_or_ge i m with q | q
  ·rw [List.getElem?_append_left (by rw [h1]; exact q)]; exact h2 i q
  ·obtain rfl : i = m := Nat.le_antisymm (Nat.le_of_lt_succ hi) q
   rw [List.getElem?_append_right (by rw [h1]; exact Nat.le_refl _), h1, Nat.sub_self, List.getElem?_eq_getElem (h i (Nat.lt_succ_self i))]; rfl
theorem sliceRange_2 (a n : Nat) : sliceRange (a : Int) (n : Int) 2 = (List.range ((n + 1 - a) / 2)).map fun k => a + 2 * k := by
 unfold sliceRange
 dsimp only
 have hc : (if (2 : Int) > 0 then (if (a : Int) < n then ((n : Int) - a + 2 - 1) / 2 else 0) else (if (a : Int) > n then ((a : Int) - n - 2 - 1) / (-2) else 0)).toNat = (n + 1 - a) / 2 := by
  simp only [show (2 : Int) > 0 by decide, if_true]
  split <;> lia
 rw [hc]
 refine List.map_congr_left fun k _ => ?_
 rfl
theorem pick_even {α : Type} (l : List α) : (pick l none none (some 2)).length = (l.length + 1) / 2 ∧ ∀ i, 2 * i < l.length → (pick l none none (some 2))[i]? = l[2 * i]? := by
 have e : sliceBounds none none (some 2) l.length = (((0 : Nat) : Int), (l.length : Int), 2) := by
  simp [sliceBounds]
 unfold pick
 rw [e]
 dsimp only
 rw [sliceRange_2]
 obtain ⟨h1, h2⟩ := fm_get (l := l) (f := fun k => 0 + 2 * k) (m := (l.length + 1 - 0) / 2) fun k h => by lia
 refine ⟨h1, fun i hi => ?_⟩
 have := h2 i (by lia)
 rwa [Nat.zero_add] at this
theorem pick_odd {α : Type} (l : List α) : (pick l (some 1) none (some 2)).length = l.length / 2 ∧ ∀ i, 2 * i + 1 < l.length → (pick l (some 1) none (some 2))[i]? = l[2 * i + 1]? := by
 by_cases h0 : l.length = 0
 ·obtain rfl := List.eq_nil_of_length_eq_zero h0
  exact ⟨by unfold pick; simp, fun i h => absurd h (Nat.not_lt_zero _)⟩
 have e : sliceBounds (some 1) none (some 2) l.length = (((1 : Nat) : Int), (l.length : Int), 2) := by
  simp [sliceBounds]; lia
 unfold pick
 rw [e]
 dsimp only
 rw [sliceRange_2]
 obtain ⟨h1, h2⟩ := fm_get (l := l) (f := fun k => 1 + 2 * k) (m := (l.length + 1 - 1) / 2) fun k h => by lia
 refine ⟨h1, fun i hi => ?_⟩
 have := h2 i (by lia)
 rwa [Nat.add_comm 1] at this
end
noncomputable abbrev cs (x : Str) : List Nat := x.cps.toList
theorem str_ext {x y : Str} (h : cs x = cs y) : x = y := Str.ext' (Array.toList_inj.mp h)
theorem cs_append (x y : Str) : cs (x ++ y) = cs x ++ cs y := by unfold cs; rw [PySem.Str.cps_append, Array.toList_append]
noncomputable def numS (n : Nat) : Str := Str.ofString (toString ((n : Nat) : Int))
noncomputable def numT (n : Nat) : Bool := (cs (numS n)).all (fun c => !Unicode.isSpace c && decide (33 ≤ c) && decide (c ≤ 57)) && decide (1 ≤ (cs (numS n)).length) && decide ((cs (numS n)).length ≤ 3) && decide ((cs (numS n)).foldl (fun v c => 10 * v + (c - 48)) 0 = n)
theorem num_all : ((List.range 300).all numT) = true := by decide +kernel
theorem num_ok {n : Nat} (h : n < 300) : ((cs (numS n)).all fun c => !Unicode.isSpace c) = true ∧ (∀ c ∈ cs (numS n), 33 ≤ c ∧ c ≤ 57) ∧ 1 ≤ (cs (numS n)).length ∧ (cs (numS n)).length ≤ 3 ∧ (cs (numS n)).foldl (fun v c => 10 * v + (c - 48)) 0 = n := by
 have q := List.all_eq_true.mp num_all n (List.mem_range.mpr h)
 unfold numT at q
 simp only [Bool.and_eq_true, decide_eq_true_eq, List.all_eq_true] at q
 exact ⟨List.all_eq_true.mpr fun c m => (q.1.1.1 c m).1.1, fun c m => ⟨(q.1.1.1 c m).1.2, (q.1.1.1 c m).2⟩, q.1.1.2, q.1.2, q.2⟩
theorem num_inj {a b : Nat} (ha : a < 300) (hb : b < 300) (h : numS a = numS b) : a = b := by
 rw [← (num_ok ha).2.2.2.2, h, (num_ok hb).2.2.2.2]
theorem num_len {n : Nat} (h : n < 300) : (numS n).length ≤ 3 := by rw [KWk.len_list]; exact (num_ok h).2.2.2.1
set_option tactic.hygienic true in
theorem words_fin (x : Str) : Txt.words x = KWd.fin (KWd.scan x) := by
 have e := KWd.wordsOf_scan x
 unfold Txt.words
 split
 ·rename_i h
  have h' := eq_of_beq h
  rw [h'] at e
  rw [← e]
  have : Builtin.Str.strSub x 0 x.length = x := str_ext (by show (Builtin.Str.strSub x 0 x.length).cps.toList = _; rw [PySem.StrLaws.strSub_toList]; simp [Str.length]; exact List.take_of_length_le (by simp))
  simp [this]
 ·exact e
noncomputable abbrev sSp : Str := Str.ofString " "
noncomputable abbrev two (a b : Nat) : Str := numS a ++ sSp ++ numS b
theorem words_two {a b : Nat} (ha : a < 300) (hb : b < 300) : Txt.words (two a b) = [numS a, numS b] := by
 rw [words_fin]
 unfold KWd.scan
 have one : ∀ {n : Nat}, n < 300 → ∀ ws, (cs (numS n)).foldl KWd.step (ws, Str.empty) = (ws, numS n) := fun {n} h ws => by
  rw [KWk.fold_plain _ _ (num_ok h).1, PySem.Str.empty_append, show (⟨(cs (numS n)).toArray⟩ : Str) = numS n from str_ext (by simp)]
 have e : KWd.step ([], numS a) 32 = ([numS a], Str.empty) := by
  unfold KWd.step
  rw [if_pos (by decide), if_neg (by rw [KWk.len_list]; exact Nat.ne_of_gt (num_ok ha).2.2.1)]; rfl
 rw [show (two a b).cps.toList = cs (two a b) from rfl, cs_append, cs_append, List.foldl_append, List.foldl_append, one ha, show cs sSp = [32] from by decide]
 show KWd.fin ((cs (numS b)).foldl KWd.step (KWd.step ([], numS a) 32)) = _
 rw [e, one hb]
 unfold KWd.fin
 rw [if_neg (by rw [KWk.len_list]; exact Nat.ne_of_gt (num_ok hb).2.2.1)]; rfl
theorem spaces_two {a b : Nat} (ha : a < 300) (hb : b < 300) : (Builtin.Str.spaceWords (two a b) ((two a b).length + 1)).length = 2 := by
 have e := KWd.wordsOf_scan (two a b)
 have e2 := words_fin (two a b)
 rw [words_two ha hb] at e2
 rw [← e2] at e
 have := congrArg List.length e
 rw [List.length_map] at this
 exact this
theorem two_len {a b : Nat} (ha : a < 300) (hb : b < 300) : (two a b).length ≤ 7 := by
 have h1 := (num_ok ha).2.2.2.1
 have h2 := (num_ok hb).2.2.2.1
 rw [KWk.len_list, show (two a b).cps.toList = cs (two a b) from rfl, cs_append, cs_append, List.length_append, List.length_append, show cs sSp = [32] from by decide, List.length_singleton]; lia
theorem plain_two {a b : Nat} (ha : a < 300) (hb : b < 300) : Plain (two a b) := by
 refine ⟨fun c m => ?_, Nat.le_trans (two_len ha hb) (by decide)⟩
 have m : c ∈ cs (two a b) := Array.mem_toList_iff.mpr m
 rw [cs_append, cs_append, show cs sSp = [32] from by decide] at m
 unfold plain
 rcases List.mem_append.mp m with m | m
 ·rcases List.mem_append.mp m with m | m
  ·have := (num_ok ha).2.1 c m; lia
  ·obtain rfl := List.mem_singleton.mp m; decide
 ·have := (num_ok hb).2.1 c m; omega
theorem plain_num {a : Nat} (ha : a < 300) : Plain (numS a) := by
 refine ⟨fun c m => ?_, Nat.le_trans (num_len ha) (by decide)⟩
 have m : c ∈ cs (numS a) := Array.mem_toList_iff.mpr m
 have := (num_ok ha).2.1 c m
 unfold plain; lia
theorem low_all : ((List.range 50).all fun k => Txt.lower (numS (250 + k)) == numS (250 + k)) = true := by decide +kernel
theorem low_num {a : Nat} (h0 : 250 ≤ a) (ha : a < 300) : low (numS a) = numS a := by
 have q := eq_of_beq (List.all_eq_true.mp low_all (a - 250) (List.mem_range.mpr (by omega)))
 rwa [show 250 + (a - 250) = a from by omega] at q
theorem fn_ISEOF (c : C1) (H : List HObj) {a : Int} : Fn c.ct 3 (.val (.ref 103)) [.int a] [] H H (.bool (a == 0)) := by
 refine' fnOf (ns := ["x"]) (vs := [.int a]) (o := .ret (.bool (a == 0)) H) ?ho ?hb ?hst ?hcd ?hns ?hnd ?hbind ?hbody ?hfin
 walk_at "t_of"
 case hbind => exact bind1 fun q_ => Looks.of_pure rfl
 case hbody =>
  intro env hS; dsimp only at hS
  exact (Ex.stop (Es.ret (Ev.cmp (Ev.loc rfl) (gI' (g_ENDMARKER _) (kind_of hS rfl) (by decide)) Cmp.eqI rfl)) (by intro _ _ h; cases h))
 case hfin => first | exact Fin.ret | exact Fin.next
theorem fn_ISTERMINAL (c : C1) (H : List HObj) {a : Int} : Fn c.ct 3 (.val (.ref 89)) [.int a] [] H H (.bool (decide (a < 256))) := by
 refine' fnOf (ns := ["x"]) (vs := [.int a]) (o := .ret (.bool (decide (a < 256))) H) ?ho ?hb ?hst ?hcd ?hns ?hnd ?hbind ?hbody ?hfin
 walk_at "t_of"
 case hbind => exact bind1 fun q_ => Looks.of_pure rfl
 case hbody =>
  intro env hS; dsimp only at hS
  exact (Ex.stop (Es.ret (Ev.cmp (Ev.loc rfl) (gI' (g_NT_OFFSET _) (kind_of hS rfl) (by decide)) (by exact Cmp.ltI) rfl)) (by intro _ _ h; cases h))
 case hfin => first | exact Fin.ret | exact Fin.next
theorem fn_ISNONTERMINAL (c : C1) (H : List HObj) {a : Int} : Fn c.ct 3 (.val (.ref 96)) [.int a] [] H H (.bool (decide (a ≥ 256))) := by
 refine' fnOf (ns := ["x"]) (vs := [.int a]) (o := .ret (.bool (decide (a ≥ 256))) H) ?ho ?hb ?hst ?hcd ?hns ?hnd ?hbind ?hbody ?hfin
 walk_at "t_of"
 case hbind => exact bind1 fun q_ => Looks.of_pure rfl
 case hbody =>
  intro env hS; dsimp only at hS
  exact (Ex.stop (Es.ret (Ev.cmp (Ev.loc rfl) (gI' (g_NT_OFFSET _) (kind_of hS rfl) (by decide)) (by exact Cmp.geI) rfl)) (by intro _ _ h; cases h))
 case hfin => first | exact Fin.ret | exact Fin.next
section
noncomputable abbrev In1 (p : Int) : Prop := 0 ≤ p ∧ p ≤ 2 ^ 30
section
variable {C : Ct} {n : Nat} {env : Env} {σ : Loc} {H H' H1 : List HObj} {x y z : Str} {p q r : Int} {a b u v w : V} {pos pos' p1 p2 p3 : Pos} {e : PySem.Expr} {body rest : List PySem.Stmt} {k : Nat}
theorem Fits.of (h : 0 ≤ p) (k : p < 2 ^ 53) : Fits p := by lia
theorem In1.fits (h : In1 p) : Fits p := Fits.of h.1 (Int.lt_of_le_of_lt h.2 (by decide))
theorem In1.diff (h : In1 p) (k : In1 q) (l : q ≤ p) : In1 (p - q) := ⟨Int.sub_nonneg.mpr l, Int.le_trans (Int.sub_le_self p k.1) h.2⟩
theorem In1.sub (h : In1 p) (k : In1 q) : Fits (p - q) := by omega
theorem In1.add (h : In1 p) (k : In1 q) : Fits (p + q) := Fits.of (Int.add_nonneg h.1 k.1) (Int.lt_of_le_of_lt (Int.add_le_add h.2 k.2) (by decide))
theorem Bin.subU (h : In1 p) (k : In1 q) (ht : C.tp := by trivial) : Bin C n .Sub (.flt (fl p)) (.flt (fl q)) H H (.flt (fl (p - q))) := Bin.subF h.fits k.fits (h.sub k) ht
theorem Bin.mulU (h : In1 p) (k : In1 q) (m : In1 r) (e : p * q = r * 2 ^ 30) (ht : C.tp := by trivial) : Bin C n .Mult (.flt (fl p)) (.flt (fl q)) H H (.flt (fl r)) := Bin.mulF h.fits k.fits m.fits h.1 k.1 e ht
theorem Bin.divU (h : In1 p) (k : In1 q) (m : In1 r) (k0 : 0 < q) (e : p * 2 ^ 30 = r * q) (ht : C.tp := by trivial) : Bin C n .Div (.flt (fl p)) (.flt (fl q)) H H (.flt (fl r)) := Bin.divF h.fits k.fits m.fits k0 e ht
theorem Ev.b2 {op : Operator} (h1 : σ.lookup x = some a) (h2 : σ.lookup y = some b) (ho : Bin C n op a b H H v) (d : (plainN x && plainN y) = true := by decide) :
  Ev C n env σ H (.BinOp (.Name x p1) op (.Name y p2) pos) H v := Ev.bin (Ev.loc h1 (Bool.and_eq_true_iff.mp d).1) (Ev.loc h2 (Bool.and_eq_true_iff.mp d).2) ho
theorem Tst.eq2 (h1 : σ.lookup x = some (.flt (fl p))) (h2 : σ.lookup y = some (.flt (fl q))) (f1 : In1 p) (f2 : In1 q) (d : (plainN x && plainN y) = true := by decide) :
  Tst C n env σ H (.Compare (.Name x p1) [.Eq] [.Name y p2] pos) H (decide (p = q)) := Tst.cmp (Ev.loc h1 (Bool.and_eq_true_iff.mp d).1) (Ev.loc h2 (Bool.and_eq_true_iff.mp d).2) (Cmp.eqF f1.fits f2.fits) rfl
theorem EvL.loc3 (h1 : σ.lookup x = some u) (h2 : σ.lookup y = some v) (h3 : σ.lookup z = some w) (d : (plainN x && plainN y && plainN z) = true := by decide) :
  EvL C n env σ H pos [.Name x p1, .Name y p2, .Name z p3] H [u, v, w] := have d := Bool.and_eq_true_iff.mp d
  EvL.cons (Ev.loc h1 (Bool.and_eq_true_iff.mp d.1).1) (EvL.cons (Ev.loc h2 (Bool.and_eq_true_iff.mp d.1).2) (EvL.cons (Ev.loc h3 d.2) EvL.nil)) (fun q_ => rfl)
theorem EvA.loc3 (h1 : σ.lookup x = some u) (h2 : σ.lookup y = some v) (h3 : σ.lookup z = some w) (d : (plainN x && plainN y && plainN z) = true := by decide) :
  EvA C n env σ H pos [.Name x p1, .Name y p2, .Name z p3] [] H [u, v, w] [] := EvA.args (EvL.loc3 h1 h2 h3 d) (fun q_ => rfl)
theorem Ex.retV (h : Ev C n env σ H e H' v) : Ex C n env σ H (.Return (some e) pos :: rest) (.ret v H') := Ex.stop (Es.ret h) (fun q_ q_ h => nomatch h)
theorem Ex.ret3 (ho : a = .tup [u, v, w]) (h1 : σ.lookup x = some u) (h2 : σ.lookup y = some v) (h3 : σ.lookup z = some w) (d : (plainN x && plainN y && plainN z) = true := by decide) :
  Ex C n env σ H (.Return (some (.Tuple [.Name x p1, .Name y p2, .Name z p3] k pos)) pos' :: rest) (.ret a H) := ho ▸ Ex.retV (Ev.tup (EvL.loc3 h1 h2 h3 d))
theorem Ex.consA {σ1 : Loc} {st : PySem.Stmt} {o : Out} (x : Str) (v : V) (h1 : Es C n env σ H st (.next ((x, v) :: σ1) H1)) (h2 : Ex C n env ((x, v) :: σ1) H1 rest o) : Ex C n env σ H (st :: rest) o := Ex.cons h1 h2
theorem Ex.ifRet {b : Bool} (h : Tst C n env σ H e H1 b) (h1 : b = true → Ex C n env σ H1 body (.ret v H')) (h2 : b = false → Ex C n env σ H1 rest (.ret v H')) : Ex C n env σ H (.If e body [] pos :: rest) (.ret v H') := by
 cases b
 ·exact Ex.cons (Es.ifF h Ex.nil) (h2 rfl)
 ·exact Ex.stop (Es.ifT h (h1 rfl)) (fun q_ q_ h => nomatch h)
end
noncomputable def rgbOf (j W P Q T : Int) : Int × Int × Int := if j = 0 then (W, T, P) else if j = 1 then (Q, W, P) else if j = 2 then (P, W, T) else if j = 3 then (P, Q, W) else if j = 4 then (T, P, W) else (W, P, Q)
noncomputable def triV (t : Int × Int × Int) : V := .tup [.flt (fl t.1), .flt (fl t.2.1), .flt (fl t.2.2)]
theorem hsv_at {j k W P Q T : Int} (e : (j == k) = true) : triV (rgbOf j W P Q T) = triV (rgbOf k W P Q T) := by rw [eq_of_beq e]
theorem floor_fits {p : Int} (h : 0 ≤ p) (f : Fits p) : Fits (p / 2 ^ 30 * 2 ^ 30) := by lia
theorem six_no {j : Int} (h : j = 0 ∨ j = 1 ∨ j = 2 ∨ j = 3 ∨ j = 4 ∨ j = 5) (e0 : (j == 0) = false) (e1 : (j == 1) = false) (e2 : (j == 2) = false) (e3 : (j == 3) = false) (e4 : (j == 4) = false) (e5 : (j == 5) = false) : False := by
 rcases h with rfl | rfl | rfl | rfl | rfl | rfl
 ·cases e0
 ·cases e1
 ·cases e2
 ·cases e3
 ·cases e4
 ·cases e5
theorem hsv_any (c : C1) (H : List HObj) {h S W P Q T SF TF F j : Int} (bh : 0 ≤ h ∧ h ≤ 2 ^ 40) (s0 : 0 < S) (bS : In1 S) (bW : In1 W) (hj : (h * 6 / 2 ^ 30).fmod 6 = j) (j6 : j = 0 ∨ j = 1 ∨ j = 2 ∨ j = 3 ∨ j = 4 ∨ j = 5) (hF : h * 6 - h * 6 / 2 ^ 30 * 2 ^ 30 = F) (bF : In1 F)
  (hSF : S * F = SF * 2 ^ 30) (hTF : S * (2 ^ 30 - F) = TF * 2 ^ 30) (hP : W * (2 ^ 30 - S) = P * 2 ^ 30) (hQ : W * (2 ^ 30 - SF) = Q * 2 ^ 30) (hT : W * (2 ^ 30 - TF) = T * 2 ^ 30)
  (bSF : In1 SF) (bTF : In1 TF) (bP : In1 P) (bQ : In1 Q) (bT : In1 T) : Fn c.ct 3 (.val (.ref 79)) [.flt (fl h), .flt (fl S), .flt (fl W)] [] H H (triV (rgbOf j W P Q T)) := by
 have f1 : Fits h := Fits.of bh.1 (Int.lt_of_le_of_lt bh.2 (by decide))
 have p6 : 0 ≤ h * 6 := Int.mul_nonneg bh.1 (by decide)
 have l6 : h * 6 ≤ 2 ^ 40 * 6 := Int.mul_le_mul_of_nonneg_right bh.2 (by decide)
 have f6 : Fits (h * 6) := Fits.of p6 (Int.lt_of_le_of_lt l6 (by decide))
 have m6 : ∀ n H, Bin c.ct n .Mult (.flt (fl h)) (.flt (fl 6442450944)) H H (.flt (fl (h * 6))) := fun n H => Bin.mulF f1 (by decide) f6 bh.1 (by decide) (Int.mul_assoc h 6 (2 ^ 30)).symm
 have one : In1 (2 ^ 30) := by decide
 have co : ∀ {p}, In1 p → In1 (2 ^ 30 - p) := fun h => one.diff h h.2
 have sF : ∀ n H, Bin c.ct n .Sub (.flt (fl (h * 6))) (.int (h * 6 / 2 ^ 30)) H H (.flt (fl F)) := fun n H => hF ▸ Bin.subFI f6 (floor_fits p6 f6) (hF ▸ bF.fits)
 refine' fnOf (ns := [Str.ofString "h", Str.ofString "s", Str.ofString "v"]) (vs := [.flt (fl h), .flt (fl S), .flt (fl W)]) (o := .ret (triV (rgbOf j W P Q T)) H) ?ho ?hb ?hst ?hcd ?hns ?hnd ?hbind ?hbody ?hfin
 walk_at "t_of"
 case hbind => exact bind3 fun q_ q_ q_ => Looks.of_pure rfl
 case hbody =>
  intro env hS; dsimp only at hS
  exact (Ex.cons (Es.ifFb (Tst.cmp (Ev.loc rfl) (Ev.fl (p := 0) (by decide +kernel)) (Cmp.eqF bS.fits (by decide))) (decide_eq_false (Int.ne_of_gt s0)) Ex.nil)
 (Ex.cons (Es.assign (Ev.call (gB (g_int _) (kind_of hS rfl)) (EvA.args (EvL.cons (Ev.bin (Ev.loc rfl) (Ev.fl (p := 6442450944) (by decide +kernel)) (m6 _ _)) EvL.nil)) (by exact Fn.intFl f6 p6) Kp.typ) (il hS rfl) rfl)
 (Ex.cons (Es.assign (Ev.bin (Ev.bin (Ev.loc rfl) (Ev.fl (p := 6442450944) (by decide +kernel)) (m6 _ _)) (Ev.loc rfl) (sF _ _)) (il hS rfl) rfl)
 (Ex.cons (Es.assign (Ev.bin (Ev.loc rfl) (Ev.bin (Ev.fl (p := 2 ^ 30) (by decide +kernel)) (Ev.loc rfl) (Bin.subU one bS)) (Bin.mulU bW (co bS) bP hP)) (il hS rfl) rfl)
 (Ex.cons (Es.assign (Ev.bin (Ev.loc rfl) (Ev.bin (Ev.fl (p := 2 ^ 30) (by decide +kernel)) (Ev.b2 rfl rfl (Bin.mulU bS bF bSF hSF)) (Bin.subU one bSF)) (Bin.mulU bW (co bSF) bQ hQ)) (il hS rfl) rfl)
 (Ex.cons (Es.assign (Ev.bin (Ev.loc rfl) (Ev.bin (Ev.fl (p := 2 ^ 30) (by decide +kernel)) (Ev.bin (Ev.loc rfl) (Ev.bin (Ev.fl (p := 2 ^ 30) (by decide +kernel)) (Ev.loc rfl) (Bin.subU one bF)) (Bin.mulU bS (co bF) bTF hTF)) (Bin.subU one bTF)) (Bin.mulU bW (co bTF) bT hT)) (il hS rfl) rfl)
 (Ex.cons (Es.assign (Ev.bin (Ev.loc rfl) Ev.int (Bin.fmodE (by decide) hj)) (il hS rfl) rfl)
 (Ex.ifRet (Tst.cmp (Ev.loc rfl) Ev.int Cmp.eqI) (fun e => Ex.ret3 (hsv_at e) rfl rfl rfl) fun e0 =>
 Ex.ifRet (Tst.cmp (Ev.loc rfl) Ev.int Cmp.eqI) (fun e => Ex.ret3 (hsv_at e) rfl rfl rfl) fun e1 =>
 Ex.ifRet (Tst.cmp (Ev.loc rfl) Ev.int Cmp.eqI) (fun e => Ex.ret3 (hsv_at e) rfl rfl rfl) fun e2 =>
 Ex.ifRet (Tst.cmp (Ev.loc rfl) Ev.int Cmp.eqI) (fun e => Ex.ret3 (hsv_at e) rfl rfl rfl) fun e3 =>
 Ex.ifRet (Tst.cmp (Ev.loc rfl) Ev.int Cmp.eqI) (fun e => Ex.ret3 (hsv_at e) rfl rfl rfl) fun e4 =>
 Ex.ifRet (Tst.cmp (Ev.loc rfl) Ev.int Cmp.eqI) (fun e => Ex.ret3 (hsv_at e) rfl rfl rfl) fun e5 => (six_no j6 e0 e1 e2 e3 e4 e5).elim))))))))
 case hfin => exact Fin.ret
structure Wheel (r g b mx mn RC GC BC X : Int) : Prop where
 hR : (mx - r) * 2 ^ 30 = RC * (mx - mn)
 hG : (mx - g) * 2 ^ 30 = GC * (mx - mn)
 hB : (mx - b) * 2 ^ 30 = BC * (mx - mn)
 bR : In1 RC
 bG : In1 GC
 bB : In1 BC
 hX : (r = mx ∧ BC - GC = 6 * X) ∨ (r ≠ mx ∧ g = mx ∧ 2147483648 + RC - BC = 6 * X) ∨ (r ≠ mx ∧ g ≠ mx ∧ 4294967296 + GC - RC = 6 * X)
structure Rgb (r g b mx mn : Int) : Prop where
 br : In1 r
 bg : In1 g
 bb : In1 b
 hmx : big3 r g b = mx
 hmn : low3 r g b = mn
section
variable {r g b mx mn RC GC BC X : Int}
theorem Rgb.all (h : Rgb r g b mx mn) : In1 mx ∧ In1 mn ∧ In1 (mx - mn) ∧ In1 (mx - r) ∧ In1 (mx - g) ∧ In1 (mx - b) := by
 obtain ⟨h1, h2, h3, rfl, rfl⟩ := h
 have x : In1 (big3 r g b) := ⟨Int.le_trans h1.1 (Int.le_max_left _ _), Int.max_le.mpr ⟨h1.2, Int.max_le.mpr ⟨h2.2, h3.2⟩⟩⟩
 have n : In1 (low3 r g b) := ⟨Int.le_min.mpr ⟨h1.1, Int.le_min.mpr ⟨h2.1, h3.1⟩⟩, Int.le_trans (Int.min_le_left _ _) h1.2⟩
 exact ⟨x, n, x.diff n (Int.le_trans (Int.min_le_left _ _) (Int.le_max_left _ _)), x.diff h1 (Int.le_max_left _ _), x.diff h2 (Int.le_trans (Int.le_max_left _ _) (Int.le_max_right _ _)), x.diff h3 (Int.le_trans (Int.le_max_right _ _) (Int.le_max_right _ _))⟩
theorem Rgb.max (c : C1) {H : List HObj} (h : Rgb r g b mx mn) : Fn c.ct 2 (.val (.builtin "max")) [.flt (fl r), .flt (fl g), .flt (fl b)] [] H H (.flt (fl mx)) := h.hmx ▸ Fn.max3F h.br.fits h.bg.fits h.bb.fits
theorem Rgb.min (c : C1) {H : List HObj} (h : Rgb r g b mx mn) : Fn c.ct 2 (.val (.builtin "min")) [.flt (fl r), .flt (fl g), .flt (fl b)] [] H H (.flt (fl mn)) := h.hmn ▸ Fn.min3F h.br.fits h.bg.fits h.bb.fits
theorem pos_of (h : In1 (mx - mn)) (e : mn ≠ mx) : 0 < mx - mn := by lia
theorem six_fits {Y : Int} (h : Y = 6 * X) (f : Fits Y) : Fits (6 * X) ∧ Fits X := by omega
theorem add_fits {p q : Int} (h : In1 p) (k : 0 ≤ q) (l : q ≤ 4294967296) : Fits (q + p) := Fits.of (Int.add_nonneg k h.1) (Int.lt_of_le_of_lt (Int.add_le_add l h.2) (by decide))
theorem add_sub {p q r : Int} (h : In1 p) (i : In1 r) (k : 0 ≤ q) (l : q ≤ 4294967296) : Fits (q + p - r) := by omega
theorem Wheel.six (w : Wheel r g b mx mn RC GC BC X) : Fits (6 * X) ∧ Fits X := by
 obtain ⟨_, _, _, h1, h2, h3, ⟨_, h⟩ | ⟨_, _, h⟩ | ⟨_, _, h⟩⟩ := w
 ·exact six_fits h (h3.sub h2)
 ·exact six_fits h (add_sub h1 h3 (by decide) (by decide))
 ·exact six_fits h (add_sub h2 h1 (by decide) (by decide))
theorem six6 (h : Fits X) : 6 * X * 2 ^ 30 = X * 6442450944 := by lia
theorem Bin.subD {C : Ct} {n : Nat} {H : List HObj} {p q r : Int} (e : p - q = r) (hp : Fits p) (hq : Fits q) (hr : Fits r) (ht : C.tp := by trivial) : Bin C n .Sub (.flt (fl p)) (.flt (fl q)) H H (.flt (fl r)) := by subst e; exact Bin.subF hp hq hr ht
theorem Bin.divRE {C : Ct} {n : Nat} {H : List HObj} {a b s : UInt64} (e : s = Float64.div a b) (hb : Float64.isZero b = false) (ht : C.tp := by trivial) : Bin C n .Div (.flt a) (.flt b) H H (.flt s) := e ▸ Bin.divR hb ht
theorem Bin.hue {C : Ct} {n : Nat} {H : List HObj} (h : Fits (6 * X) ∧ Fits X) (ht : C.tp := by trivial) : Bin C n .Div (.flt (fl (6 * X))) (.flt (fl 6442450944)) H H (.flt (fl X)) := Bin.divF h.1 (by decide) h.2 (by decide) (six6 h.2) ht
theorem rgb_hsv (c : C1) (H : List HObj) {out : V} (h : Rgb r g b mx mn) (hg : mn = mx → out = .tup [.flt (fl 0), .flt (fl 0), .flt (fl mx)])
  (hw : mn ≠ mx → ∃ RC GC BC X S, Wheel r g b mx mn RC GC BC X ∧ (mx - mn) * 2 ^ 30 = S * mx ∧ Fits S ∧ out = .tup [.flt (fl (X % 2 ^ 30)), .flt (fl S), .flt (fl mx)]) : Fn c.ct 3 (.val (.ref 72)) [.flt (fl r), .flt (fl g), .flt (fl b)] [] H H out := by
 obtain ⟨bx, bn, bd, dr, dg, db⟩ := h.all
 refine' fnOf (ns := [Str.ofString "r", Str.ofString "g", Str.ofString "b"]) (vs := [.flt (fl r), .flt (fl g), .flt (fl b)]) (o := .ret out H) ?ho ?hb ?hst ?hcd ?hns ?hnd ?hbind ?hbody ?hfin
 walk_at "t_of"
 case hbind => exact bind3 fun q_ q_ q_ => Looks.of_pure rfl
 case hbody =>
  intro env hS; dsimp only at hS
  refine (Ex.cons (Es.assign (Ev.call (gB (g_max _) (kind_of hS rfl)) (EvA.loc3 rfl rfl rfl) (by exact h.max c) Kp.blt) (il hS rfl) rfl)
   (Ex.cons (Es.assign (Ev.call (gB (g_min _) (kind_of hS rfl)) (EvA.loc3 rfl rfl rfl) (by exact h.min c) Kp.blt) (il hS rfl) rfl)
   (Ex.cons (Es.assign (Ev.b2 rfl rfl (Bin.subU bx bn)) (il hS rfl) rfl)
   (Ex.cons (Es.assign (Ev.loc rfl) (il hS rfl) rfl)
   (Ex.ifRet (Tst.eq2 rfl rfl bn bx) (fun e => hg (of_decide_eq_true e) ▸ Ex.retV (Ev.tup (EvL.cons (Ev.fl (p := 0) (by decide +kernel)) (EvL.cons (Ev.fl (p := 0) (by decide +kernel)) (EvL.cons (Ev.loc rfl) EvL.nil)))))
    fun e => ?_)))))
  have ne := of_decide_eq_false e
  obtain ⟨RC, GC, BC, X, S, w, hSS, bS, ho⟩ := hw ne
  have b0 := pos_of bd ne
  have x0 : 0 < mx := Int.lt_of_lt_of_le b0 (Int.sub_le_self mx bn.1)
  refine (Ex.cons (Es.assign (Ev.b2 rfl rfl (Bin.divF bd.fits bx.fits bS x0 hSS)) (il hS rfl) rfl)
   (Ex.cons (Es.assign (Ev.bin (Ev.b2 rfl rfl (Bin.subU bx h.br)) (Ev.loc rfl) (Bin.divU dr bd w.bR b0 w.hR)) (il hS rfl) rfl)
   (Ex.cons (Es.assign (Ev.bin (Ev.b2 rfl rfl (Bin.subU bx h.bg)) (Ev.loc rfl) (Bin.divU dg bd w.bG b0 w.hG)) (il hS rfl) rfl)
   (Ex.cons (Es.assign (Ev.bin (Ev.b2 rfl rfl (Bin.subU bx h.bb)) (Ev.loc rfl) (Bin.divU db bd w.bB b0 w.hB)) (il hS rfl) rfl) ?_))))
  refine' Ex.consA (Str.ofString "h") (.flt (fl (6 * X))) ?hue ?rest
  case hue =>
   have f6 := w.six.1
   rcases w.hX with ⟨h1, h2⟩ | ⟨h1, h2, h3⟩ | ⟨h1, h2, h3⟩
   ·exact Es.ifTb (Tst.eq2 rfl rfl h.br bx) (decide_eq_true h1) (Ex.one (Es.assign (Ev.b2 rfl rfl (Bin.subD h2 w.bB.fits w.bG.fits f6)) (il hS rfl) rfl))
   ·exact Es.ifFb (Tst.eq2 rfl rfl h.br bx) (decide_eq_false h1) (Ex.one (Es.ifTb (Tst.eq2 rfl rfl h.bg bx) (decide_eq_true h2) (Ex.one (Es.assign (Ev.bin (Ev.bin (Ev.fl (p := 2147483648) (by decide +kernel)) (Ev.loc rfl) (Bin.addF (by decide) w.bR.fits (add_fits w.bR (by decide) (by decide)))) (Ev.loc rfl) (Bin.subD h3 (add_fits w.bR (by decide) (by decide)) w.bB.fits f6)) (il hS rfl) rfl))))
   ·exact Es.ifFb (Tst.eq2 rfl rfl h.br bx) (decide_eq_false h1) (Ex.one (Es.ifFb (Tst.eq2 rfl rfl h.bg bx) (decide_eq_false h2) (Ex.one (Es.assign (Ev.bin (Ev.bin (Ev.fl (p := 4294967296) (by decide +kernel)) (Ev.loc rfl) (Bin.addF (by decide) w.bG.fits (add_fits w.bG (by decide) (by decide)))) (Ev.loc rfl) (Bin.subD h3 (add_fits w.bG (by decide) (by decide)) w.bR.fits f6)) (il hS rfl) rfl))))
  case rest => exact (Ex.cons (Es.assign (Ev.bin (Ev.bin (Ev.loc rfl) (Ev.fl (p := 6442450944) (by decide +kernel)) (Bin.hue w.six)) (Ev.fl (p := 2 ^ 30) (by decide +kernel)) (Bin.modF w.six.2)) (il hS rfl) rfl) (Ex.ret3 ho rfl rfl rfl))
 case hfin => exact Fin.ret
noncomputable def Sat (mx mn L : Int) (s : UInt64) : Prop := (L ≤ 536870912 ∧ s = Float64.div (fl (mx - mn)) (fl (mx + mn))) ∨ (¬ L ≤ 536870912 ∧ mx + mn < 2147483648 ∧ s = Float64.div (fl (mx - mn)) (fl (2147483648 - mx - mn)))
theorem nz_of {p : Int} (h : 0 < p) (f : Fits p) : Float64.isZero (fl p) = false := by rw [fl_isZero f]; exact decide_eq_false (Int.ne_of_gt h)
theorem two_sub {p q : Int} (h : p + q < 2147483648) : 0 < 2147483648 - p - q := by lia
theorem two_fits {p : Int} (h : In1 p) : Fits (2147483648 - p) := by omega
theorem two_fits2 {p q : Int} (h : In1 p) (k : In1 q) : Fits (2147483648 - p - q) := by omega
theorem half_of {p q L : Int} (e : p + q = 2 * L) (h : In1 p) (k : In1 q) : In1 L ∧ (p + q) * 2 ^ 30 = L * 2147483648 := by lia
theorem rgb_hls (c : C1) (H : List HObj) {out : V} {L : Int} (h : Rgb r g b mx mn) (hL : mx + mn = 2 * L) (hg : mn = mx → out = .tup [.flt (fl 0), .flt (fl L), .flt (fl 0)])
  (hw : mn ≠ mx → ∃ RC GC BC X s, Wheel r g b mx mn RC GC BC X ∧ Sat mx mn L s ∧ out = .tup [.flt (fl (X % 2 ^ 30)), .flt (fl L), .flt s]) : Fn c.ct 3 (.val (.ref 65)) [.flt (fl r), .flt (fl g), .flt (fl b)] [] H H out := by
 obtain ⟨bx, bn, bd, dr, dg, db⟩ := h.all
 obtain ⟨bL, hL'⟩ := half_of hL bx bn
 refine' fnOf (ns := [Str.ofString "r", Str.ofString "g", Str.ofString "b"]) (vs := [.flt (fl r), .flt (fl g), .flt (fl b)]) (o := .ret out H) ?ho ?hb ?hst ?hcd ?hns ?hnd ?hbind ?hbody ?hfin
 walk_at "t_of"
 case hbind => exact bind3 fun q_ q_ q_ => Looks.of_pure rfl
 case hbody =>
  intro env hS; dsimp only at hS
  refine (Ex.cons (Es.assign (Ev.call (gB (g_max _) (kind_of hS rfl)) (EvA.loc3 rfl rfl rfl) (by exact h.max c) Kp.blt) (il hS rfl) rfl)
   (Ex.cons (Es.assign (Ev.call (gB (g_min _) (kind_of hS rfl)) (EvA.loc3 rfl rfl rfl) (by exact h.min c) Kp.blt) (il hS rfl) rfl)
   (Ex.cons (Es.assign (Ev.b2 rfl rfl (Bin.addF bx.fits bn.fits (bx.add bn))) (il hS rfl) rfl)
   (Ex.cons (Es.assign (Ev.b2 rfl rfl (Bin.subU bx bn)) (il hS rfl) rfl)
   (Ex.cons (Es.assign (Ev.bin (Ev.loc rfl) (Ev.fl (p := 2147483648) (by decide +kernel)) (Bin.divF (bx.add bn) (by decide) bL.fits (by decide) hL')) (il hS rfl) rfl)
   (Ex.ifRet (Tst.eq2 rfl rfl bn bx) (fun e => hg (of_decide_eq_true e) ▸ Ex.retV (Ev.tup (EvL.cons (Ev.fl (p := 0) (by decide +kernel)) (EvL.cons (Ev.loc rfl) (EvL.cons (Ev.fl (p := 0) (by decide +kernel)) EvL.nil)))))
    fun e => ?_))))))
  have ne := of_decide_eq_false e
  obtain ⟨RC, GC, BC, X, s, w, hs, ho⟩ := hw ne
  have b0 := pos_of bd ne
  have x0 : 0 < mx + mn := Int.lt_of_lt_of_le b0 (Int.le_trans (Int.sub_le_self mx bn.1) (Int.le_add_of_nonneg_right bn.1))
  refine' Ex.consA (Str.ofString "s") (.flt s) ?sat ?rest
  case sat =>
   rcases hs with ⟨h1, h2⟩ | ⟨h1, h2, h3⟩
   ·exact Es.ifTb (Tst.cmp (Ev.loc rfl) (Ev.fl (p := 536870912) (by decide +kernel)) (Cmp.leF bL.fits (by decide))) (decide_eq_true h1) (Ex.one (Es.assign (Ev.b2 rfl rfl (Bin.divRE h2 (nz_of x0 (bx.add bn)))) (il hS rfl) rfl))
   ·exact Es.ifFb (Tst.cmp (Ev.loc rfl) (Ev.fl (p := 536870912) (by decide +kernel)) (Cmp.leF bL.fits (by decide))) (decide_eq_false h1) (Ex.one (Es.assign (Ev.bin (Ev.loc rfl) (Ev.bin (Ev.bin (Ev.fl (p := 2147483648) (by decide +kernel)) (Ev.loc rfl) (Bin.subF (by decide) bx.fits (two_fits bx))) (Ev.loc rfl) (Bin.subF (two_fits bx) bn.fits (two_fits2 bx bn))) (Bin.divRE h3 (nz_of (two_sub h2) (two_fits2 bx bn)))) (il hS rfl) rfl))
  case rest =>
   refine (Ex.cons (Es.assign (Ev.bin (Ev.b2 rfl rfl (Bin.subU bx h.br)) (Ev.loc rfl) (Bin.divU dr bd w.bR b0 w.hR)) (il hS rfl) rfl)
    (Ex.cons (Es.assign (Ev.bin (Ev.b2 rfl rfl (Bin.subU bx h.bg)) (Ev.loc rfl) (Bin.divU dg bd w.bG b0 w.hG)) (il hS rfl) rfl)
    (Ex.cons (Es.assign (Ev.bin (Ev.b2 rfl rfl (Bin.subU bx h.bb)) (Ev.loc rfl) (Bin.divU db bd w.bB b0 w.hB)) (il hS rfl) rfl) ?_)))
   refine' Ex.consA (Str.ofString "h") (.flt (fl (6 * X))) ?hue ?rest
   case hue =>
    have f6 := w.six.1
    rcases w.hX with ⟨h1, h2⟩ | ⟨h1, h2, h3⟩ | ⟨h1, h2, h3⟩
    ·exact Es.ifTb (Tst.eq2 rfl rfl h.br bx) (decide_eq_true h1) (Ex.one (Es.assign (Ev.b2 rfl rfl (Bin.subD h2 w.bB.fits w.bG.fits f6)) (il hS rfl) rfl))
    ·exact Es.ifFb (Tst.eq2 rfl rfl h.br bx) (decide_eq_false h1) (Ex.one (Es.ifTb (Tst.eq2 rfl rfl h.bg bx) (decide_eq_true h2) (Ex.one (Es.assign (Ev.bin (Ev.bin (Ev.fl (p := 2147483648) (by decide +kernel)) (Ev.loc rfl) (Bin.addF (by decide) w.bR.fits (add_fits w.bR (by decide) (by decide)))) (Ev.loc rfl) (Bin.subD h3 (add_fits w.bR (by decide) (by decide)) w.bB.fits f6)) (il hS rfl) rfl))))
    ·exact Es.ifFb (Tst.eq2 rfl rfl h.br bx) (decide_eq_false h1) (Ex.one (Es.ifFb (Tst.eq2 rfl rfl h.bg bx) (decide_eq_false h2) (Ex.one (Es.assign (Ev.bin (Ev.bin (Ev.fl (p := 4294967296) (by decide +kernel)) (Ev.loc rfl) (Bin.addF (by decide) w.bG.fits (add_fits w.bG (by decide) (by decide)))) (Ev.loc rfl) (Bin.subD h3 (add_fits w.bG (by decide) (by decide)) w.bR.fits f6)) (il hS rfl) rfl))))
   case rest => exact (Ex.cons (Es.assign (Ev.bin (Ev.bin (Ev.loc rfl) (Ev.fl (p := 6442450944) (by decide +kernel)) (Bin.hue w.six)) (Ev.fl (p := 2 ^ 30) (by decide +kernel)) (Bin.modF w.six.2)) (il hS rfl) rfl) (Ex.ret3 ho rfl rfl rfl))
 case hfin => exact Fin.ret
end
end
section
open Float64
section
variable {C : Ct} {n : Nat} {env : Env} {σ : Loc} {H H1 H2 : List HObj} {pos : Pos} {v v1 : V} {e e1 e2 e3 : PySem.Expr} {a spot turns : Int}
theorem Ev.eqv (h : Ev C n env σ H e H1 v) (q : v = v1) : Ev C n env σ H e H1 v1 := q ▸ h
theorem Ev.ifD {b : Bool} (h : Tst C n env σ H e1 H1 b) (h2 : b = true → Ev C n env σ H1 e2 H2 v) (h3 : b = false → Ev C n env σ H1 e3 H2 v) : Ev C n env σ H (.IfExp e1 e2 e3 pos) H2 v := by
 cases b
 ·exact Ev.ifF h (h3 rfl)
 ·exact Ev.ifT h (h2 rfl)
theorem small64 (h : 0 ≤ a) (k : a ≤ 4) : a.natAbs < 2 ^ 64 := by lia
theorem scale (m k d : Int) (h : 0 ≤ a) (hm : a ≤ m) (e : 2 ^ 30 = k * d) (hd : 0 < d) (k0 : 0 ≤ k) (f : m * k < 2 ^ 53) (l : m < 2 ^ 60) (ht : C.tp := by trivial) : Bin C n .Div (.int a) (.int d) H H (.flt (fl (k * a))) :=
 Bin.divIF hd h (Int.lt_of_le_of_lt hm l) (Fits.of (Int.mul_nonneg k0 h) (Int.lt_of_le_of_lt (Int.mul_comm m k ▸ Int.mul_le_mul_of_nonneg_left hm k0) f)) (by rw [e, Int.mul_comm k a, Int.mul_assoc]) ht
theorem Bin.quart (h : 0 ≤ a ∧ a ≤ 4) (ht : C.tp := by trivial) : Bin C n .Div (.int a) (.int 4) H H (.flt (fl (268435456 * a))) := scale 4 268435456 4 h.1 h.2 (by decide) (by decide) (by decide) (by decide) (by decide) ht
theorem Bin.octet (h : 0 ≤ a ∧ a ≤ 32) (ht : C.tp := by trivial) : Bin C n .Div (.int a) (.int 32) H H (.flt (fl (33554432 * a))) := scale 32 33554432 32 h.1 h.2 (by decide) (by decide) (by decide) (by decide) (by decide) ht
theorem Bin.turn (h : 0 ≤ spot ∧ spot < 16777216) (k : 0 ≤ turns ∧ turns ≤ 3) (ht : C.tp := by trivial) : Bin C n .Add (.flt (fl (64 * spot))) (.int turns) H H (.flt (fl (64 * spot + turns * 2 ^ 30))) := Bin.addFI (by lia) (by lia) (by omega) ht
theorem quart_fits (h : 0 ≤ a ∧ a ≤ 4) : Fits (268435456 * a) := by lia
theorem octet_fits (h : 0 ≤ a ∧ a ≤ 32) : Fits (33554432 * a) := by lia
end
structure Six (spot j G : Int) : Prop where
 at_ : 3 * spot = 8388608 * j + G
 jc : j = 0 ∨ j = 1 ∨ j = 2 ∨ j = 3 ∨ j = 4 ∨ j = 5
 g0 : 0 ≤ G ∧ G ≤ 8388607
theorem six_of {spot : Int} (h : 0 ≤ spot ∧ spot < 16777216) : Six spot (3 * spot / 8388608) (3 * spot % 8388608) := ⟨by lia, by lia, by lia⟩
section
variable {spot turns share value j G : Int} {a b c d p q r W D E g : Int}
theorem Six.div (s : Six spot j G) : (64 * spot + turns * 2 ^ 30) * 6 / 2 ^ 30 = j + 6 * turns := by
 obtain ⟨h, _, k⟩ := s; lia
theorem Six.rest (s : Six spot j G) : (64 * spot + turns * 2 ^ 30) * 6 - (64 * spot + turns * 2 ^ 30) * 6 / 2 ^ 30 * 2 ^ 30 = 128 * G := by
 rw [s.div]; have h := s.at_; clear s; lia
theorem Six.mod (s : Six spot j G) : ((64 * spot + turns * 2 ^ 30) * 6 / 2 ^ 30).fmod 6 = j := by
 rw [s.div, Int.fmod_eq_emod_of_nonneg _ (by decide), Int.add_mul_emod_self_left]
 rcases s.jc with rfl | rfl | rfl | rfl | rfl | rfl <;> rfl
theorem compl (h : a * b = c * 2 ^ 30) : a * (2 ^ 30 - b) = (a - c) * 2 ^ 30 := by rw [Int.mul_sub, Int.sub_mul, h]
theorem both (h : a * b = p * 2 ^ 30) (k : a * c = q * 2 ^ 30) : a * (b - c) = (p - q) * 2 ^ 30 := by rw [Int.mul_sub, Int.sub_mul, h, k]
theorem prod (x y : Int) (h : a * b = c * 2 ^ 30) : a * x * (b * y) = c * (x * y) * 2 ^ 30 := by rw [Int.mul_assoc a x, Int.mul_left_comm x b, ← Int.mul_assoc a b, h, Int.mul_right_comm]
theorem le_mul (m k : Int) (h : 0 ≤ a ∧ a ≤ m) (k0 : 0 ≤ k) (e : k * m ≤ 2 ^ 30) : In1 (k * a) := ⟨Int.mul_nonneg k0 h.1, Int.le_trans (Int.mul_le_mul_of_nonneg_left h.2 k0) e⟩
theorem le_prod (h : 0 ≤ a ∧ a ≤ p) (k : 0 ≤ b ∧ b ≤ q) : 0 ≤ a * b ∧ a * b ≤ p * q := ⟨Int.mul_nonneg h.1 k.1, Int.mul_le_mul h.2 k.2 k.1 (Int.le_trans h.1 h.2)⟩
noncomputable def rgbP (j W D E : Int) : Int × Int × Int := rgbOf j W (W - D) (W - E) (W - (D - E))
theorem turn_bd (b1 : 0 ≤ spot ∧ spot < 16777216) (b2 : 0 ≤ turns ∧ turns ≤ 3) : 0 ≤ 64 * spot + turns * 2 ^ 30 ∧ 64 * spot + turns * 2 ^ 30 ≤ 2 ^ 40 := by lia
theorem down2 (h : a ≤ b * 8388607) (k : 0 ≤ b) : 8 * a ≤ 67108864 * b ∧ 32 * a ≤ 268435456 * b := by lia
theorem down3 (h : a ≤ b * 8388607) (k : 1 ≤ b) : 8 * a < 67108864 * b := by lia
theorem painted_rgb (c : C1) (H : List HObj) (s : Six spot j G) (b1 : 0 ≤ spot ∧ spot < 16777216) (b2 : 0 ≤ turns ∧ turns ≤ 3) (b3 : 1 ≤ share ∧ share ≤ 4) (b4 : 0 ≤ value ∧ value ≤ 4) :
  Fn c.ct 3 (.val (.ref 79)) [.flt (fl (64 * spot + turns * 2 ^ 30)), .flt (fl (268435456 * share)), .flt (fl (268435456 * value))] [] H H (triV (rgbP j (268435456 * value) (67108864 * (value * share)) (8 * (value * (share * G))))) := by
 have b3' : 0 ≤ share ∧ share ≤ 4 := ⟨Int.le_trans (by decide) b3.1, b3.2⟩
 have bS := le_mul 4 268435456 b3' (by decide) (by decide)
 have bW := le_mul 4 268435456 b4 (by decide) (by decide)
 have bF := le_mul 8388607 128 s.g0 (by decide) (by decide)
 have bK := le_prod b4 b3'
 have bD := le_mul (4 * 4) 67108864 bK (by decide) (by decide)
 have bg := le_prod b3' s.g0
 have bSF := le_mul (4 * 8388607) 32 bg (by decide) (by decide)
 have bE := le_mul (4 * (4 * 8388607)) 8 (le_prod b4 bg) (by decide) (by decide)
 have l1 := (down2 (Int.mul_le_mul_of_nonneg_left s.g0.2 b3'.1) b3'.1).2
 have l2 : 67108864 * (value * share) ≤ 268435456 * value := by
  have := Int.mul_le_mul_of_nonneg_left b3.2 b4.1; clear s bF bK bD bg bSF bE l1 bS bW; lia
 have l3 : 8 * (value * (share * G)) ≤ 67108864 * (value * share) := by
  have := (down2 (Int.mul_le_mul_of_nonneg_left s.g0.2 bK.1) bK.1).1
  rwa [Int.mul_assoc] at this
 have hSF := prod (a := 268435456) (b := 128) (c := 32) share G (by decide)
 have hWS := prod (a := 268435456) (b := 268435456) (c := 67108864) value share (by decide)
 have hWF := prod (a := 268435456) (b := 32) (c := 8) value (share * G) (by decide)
 exact hsv_any c H (turn_bd b1 b2) (Int.mul_pos (by decide) b3.1) bS bW s.mod s.jc s.rest bF hSF (compl hSF) (compl hWS) (compl hWF) (compl (both hWS hWF)) bSF (bS.diff bSF l1) (bW.diff bD l2) (bW.diff bE (Int.le_trans l3 l2)) (bW.diff (bD.diff bE l3) (Int.le_trans (Int.sub_le_self _ bE.1) l2))
theorem big3_a (h1 : b ≤ a) (h2 : c ≤ a) : big3 a b c = a ∧ big3 b a c = a ∧ big3 b c a = a :=
 ⟨Int.max_eq_left (Int.max_le.mpr ⟨h1, h2⟩), by rw [big3, Int.max_eq_left h2, Int.max_eq_right h1], by rw [big3, Int.max_eq_right h2, Int.max_eq_right h1]⟩
theorem low3_a (h1 : a ≤ b) (h2 : a ≤ c) : low3 a b c = a ∧ low3 b a c = a ∧ low3 b c a = a :=
 ⟨Int.min_eq_left (Int.le_min.mpr ⟨h1, h2⟩), by rw [low3, Int.min_eq_left h2, Int.min_eq_right h1], by rw [low3, Int.min_eq_right h2, Int.min_eq_right h1]⟩
theorem rgb_of (jc : j = 0 ∨ j = 1 ∨ j = 2 ∨ j = 3 ∨ j = 4 ∨ j = 5) (bW : In1 W) (d0 : 0 ≤ D) (dW : D ≤ W) (e0 : 0 ≤ E) (eD : E ≤ D) : Rgb (rgbP j W D E).1 (rgbP j W D E).2.1 (rgbP j W D E).2.2 W (W - D) := by
 have bD : In1 D := ⟨d0, Int.le_trans dW bW.2⟩
 have bE : In1 E := ⟨e0, Int.le_trans eD bD.2⟩
 have eW := Int.le_trans eD dW
 have dE := Int.sub_le_self D e0
 have bP := bW.diff bD dW
 have bQ := bW.diff bE eW
 have bT := bW.diff (bD.diff bE eD) (Int.le_trans dE dW)
 have pQ : W - D ≤ W - E := Int.sub_le_sub_left eD W
 have pT : W - D ≤ W - (D - E) := Int.sub_le_sub_left dE W
 have qW : W - E ≤ W := Int.sub_le_self W e0
 have tW : W - (D - E) ≤ W := Int.sub_le_self W (Int.sub_nonneg.mpr eD)
 have pW : W - D ≤ W := Int.sub_le_self W d0
 rcases jc with rfl | rfl | rfl | rfl | rfl | rfl
 ·exact ⟨bW, bT, bP, (big3_a tW pW).1, (low3_a pW pT).2.2⟩
 ·exact ⟨bQ, bW, bP, (big3_a qW pW).2.1, (low3_a pQ pW).2.2⟩
 ·exact ⟨bP, bW, bT, (big3_a pW tW).2.1, (low3_a pW pT).1⟩
 ·exact ⟨bP, bQ, bW, (big3_a pW qW).2.2, (low3_a pQ pW).1⟩
 ·exact ⟨bT, bP, bW, (big3_a tW pW).2.2, (low3_a pT pW).2.1⟩
 ·exact ⟨bW, bP, bQ, (big3_a pW qW).1, (low3_a pW pQ).2.1⟩
theorem hue_eq (x : Int) : (6 * x = 2 ^ 30 * 0 + g → 2 ^ 30 - (2 ^ 30 - g) = 6 * x) ∧ (6 * x = 2 ^ 30 * 1 + g → 2147483648 + g - 2 ^ 30 = 6 * x) ∧ (6 * x = 2 ^ 30 * 2 + g → 2147483648 + 2 ^ 30 - (2 ^ 30 - g) = 6 * x) ∧
  (6 * x = 2 ^ 30 * 3 + g → 4294967296 + g - 2 ^ 30 = 6 * x) ∧ (6 * x = 2 ^ 30 * 4 + g → 4294967296 + 2 ^ 30 - (2 ^ 30 - g) = 6 * x) ∧ (6 * x = 2 ^ 30 * 5 + g → g - 2 ^ 30 = 6 * (x - 2 ^ 30)) := by
 refine ⟨?_, ?_, ?_, ?_, ?_, ?_⟩ <;> intro h <;> lia
theorem hue_three {x : Int} (h : 6 * x = 2 ^ 30 * 3 + g) (k : g = 0) : 2147483648 + 2 ^ 30 - 0 = 6 * x := by lia
theorem hue_one {x : Int} (h : 6 * (64 * x) = 2 ^ 30 * 1 + g) (k : g = 0) : False := by lia
theorem hue_mod {x : Int} (h : 0 ≤ x ∧ x < 16777216) : 64 * x % 2 ^ 30 = 64 * x ∧ (64 * x - 2 ^ 30) % 2 ^ 30 = 64 * x := by omega
theorem ne_sub (h : a ≠ 0) : W - a ≠ W := by lia
theorem wheel_of (jc : j = 0 ∨ j = 1 ∨ j = 2 ∨ j = 3 ∨ j = 4 ∨ j = 5) (hx : 6 * (64 * spot) = 2 ^ 30 * j + g) (b1 : 0 ≤ spot ∧ spot < 16777216) (d0 : 0 < D) (eD : E < D) (bg : In1 g) (q : E * 2 ^ 30 = g * D) (hz : E = 0 → g = 0) :
  ∃ RC GC BC X, Wheel (rgbP j W D E).1 (rgbP j W D E).2.1 (rgbP j W D E).2.2 W (W - D) RC GC BC X ∧ X % 2 ^ 30 = 64 * spot := by
 have eW : (W - W) * 2 ^ 30 = 0 * (W - (W - D)) := by rw [Int.sub_self, Int.zero_mul, Int.zero_mul]
 have eP : (W - (W - D)) * 2 ^ 30 = 2 ^ 30 * (W - (W - D)) := Int.mul_comm _ _
 have eQ : (W - (W - E)) * 2 ^ 30 = g * (W - (W - D)) := by rw [Int.sub_sub_self, Int.sub_sub_self]; exact q
 have eT : (W - (W - (D - E))) * 2 ^ 30 = (2 ^ 30 - g) * (W - (W - D)) := by rw [Int.sub_sub_self, Int.sub_sub_self, Int.sub_mul, Int.sub_mul, q, Int.mul_comm D]
 have z : In1 0 := by decide
 have o : In1 (2 ^ 30) := by decide
 have bh : In1 (2 ^ 30 - g) := o.diff bg bg.2
 have nP : W - D ≠ W := ne_sub (Int.ne_of_gt d0)
 have nT : W - (D - E) ≠ W := ne_sub (Int.ne_of_gt (Int.sub_pos.mpr eD))
 have m := hue_mod b1
 obtain ⟨t0, t1, t2, t3, t4, t5⟩ := hue_eq (g := g) (64 * spot)
 rcases jc with rfl | rfl | rfl | rfl | rfl | rfl
 ·exact ⟨0, 2 ^ 30 - g, 2 ^ 30, 64 * spot, ⟨eW, eT, eP, z, bh, o, .inl ⟨rfl, t0 hx⟩⟩, m.1⟩
 ·exact ⟨g, 0, 2 ^ 30, 64 * spot, ⟨eQ, eW, eP, bg, z, o, .inr (.inl ⟨ne_sub fun e => hue_one hx (hz e), rfl, t1 hx⟩)⟩, m.1⟩
 ·exact ⟨2 ^ 30, 0, 2 ^ 30 - g, 64 * spot, ⟨eP, eW, eT, o, z, bh, .inr (.inl ⟨nP, rfl, t2 hx⟩)⟩, m.1⟩
 ·have w : ((W - D = W ∧ (0 : Int) - g = 6 * (64 * spot)) ∨ (W - D ≠ W ∧ W - E = W ∧ 2147483648 + 2 ^ 30 - 0 = 6 * (64 * spot)) ∨ (W - D ≠ W ∧ W - E ≠ W ∧ 4294967296 + g - 2 ^ 30 = 6 * (64 * spot))) := by
   by_cases k : E = 0
   ·exact .inr (.inl ⟨nP, by rw [k, Int.sub_zero], hue_three hx (hz k)⟩)
   ·exact .inr (.inr ⟨nP, ne_sub k, t3 hx⟩)
  exact ⟨2 ^ 30, g, 0, 64 * spot, ⟨eP, eQ, eW, o, bg, z, w⟩, m.1⟩
 ·exact ⟨2 ^ 30 - g, 2 ^ 30, 0, 64 * spot, ⟨eT, eP, eW, bh, o, z, .inr (.inr ⟨nT, nP, t4 hx⟩)⟩, m.1⟩
 ·exact ⟨0, 2 ^ 30, g, 64 * spot - 2 ^ 30, ⟨eW, eP, eQ, z, o, bg, .inl ⟨rfl, t5 hx⟩⟩, m.2⟩
end
noncomputable def Sound (s : UInt64) : Prop := Float64.isNaN s = false ∧ Float64.cmp s s = some .eq
theorem darkQ {share value : Int} (b3 : 1 ≤ share ∧ share ≤ 4) (b4 : 1 ≤ value ∧ value ≤ 4) :
  Float64.div (fl (268435456 * value - (268435456 * value - 67108864 * (value * share)))) (fl (268435456 * value + (268435456 * value - 67108864 * (value * share)))) = Float64.ofFrac false share.natAbs (8 - share).natAbs ∧
  Float64.div (fl (268435456 * value - (268435456 * value - 67108864 * (value * share)))) (fl (2147483648 - 268435456 * value - (268435456 * value - 67108864 * (value * share)))) = Float64.ofFrac false (value * share).natAbs (32 - value * (8 - share)).natAbs ∧
  Sound (Float64.ofFrac false share.natAbs (8 - share).natAbs) ∧ Sound (Float64.ofFrac false (value * share).natAbs (32 - value * (8 - share)).natAbs) ∧ value * (8 - share) < 32 := by
 have h1 : share = 1 ∨ share = 2 ∨ share = 3 ∨ share = 4 := by lia
 have h2 : value = 1 ∨ value = 2 ∨ value = 3 ∨ value = 4 := by clear h1; lia
 unfold Sound
 rcases h1 with rfl | rfl | rfl | rfl <;> rcases h2 with rfl | rfl | rfl | rfl <;> decide +kernel
section
variable {C : Ct} {n : Nat} {H : List HObj}
theorem Bin.part {spot whole k : Int} (b0 : 0 ≤ spot ∧ spot < whole) (hw : whole * k = 16777216) (w0 : 0 < whole) (ht : C.tp := by trivial) : Bin C n .Div (.int spot) (.int whole) H H (.flt (fl (64 * (k * spot)))) := by
 have k0 : 0 < k := by
  refine Int.not_le.mp fun h => ?_
  have := Int.mul_nonneg_of_nonpos_of_nonpos (a := -whole) (b := k) (by lia) h
  rw [Int.neg_mul] at this; lia
 have hk : k * spot < 16777216 := by rw [← hw, Int.mul_comm whole]; exact Int.mul_lt_mul_of_pos_left b0.2 k0
 have h1 := Int.mul_nonneg (Int.le_of_lt k0) b0.1
 have hs : spot < 2 ^ 60 := by
  have := Int.mul_le_mul_of_nonneg_right (show 1 ≤ k from k0) b0.1
  lia
 refine Bin.divIF w0 b0.1 hs (Fits.of (by lia) (by lia)) ?_ ht
 rw [show (64 : Int) * (k * spot) * whole = 64 * (whole * k) * spot from by rw [Int.mul_comm whole k]; simp only [Int.mul_assoc, Int.mul_comm, Int.mul_left_comm], hw]; lia
end
theorem told_walk (c : C1) (H : List HObj) {spot whole k x odd turns share value r g b : Int} {full : V} {s2 : UInt64} (b0 : 0 ≤ spot ∧ spot < whole) (hw : whole * k = 16777216) (w0 : 0 < whole) (w1 : whole ≤ 262144) (x0 : 0 ≤ x) (ht : (x.fdiv 16).fmod 4 = turns) (hs : 1 + x.fmod 4 = share) (hv : 1 + (x.fdiv 4).fmod 4 = value)
  (b1 : 0 ≤ k * spot ∧ k * spot < 16777216) (b2 : 0 ≤ turns ∧ turns ≤ 3) (b3 : 0 ≤ share ∧ share ≤ 4) (b4 : 0 ≤ value ∧ value ≤ 4) (b5 : 0 ≤ value * (8 - share) ∧ value * (8 - share) ≤ 32)
  (h1 : ∀ H, Fn c.ct 3 (.val (.ref 79)) [.flt (fl (64 * (k * spot) + turns * 2 ^ 30)), .flt (fl (268435456 * share)), .flt (fl (268435456 * value))] [] H H (.tup [.flt (fl r), .flt (fl g), .flt (fl b)]))
  (h2 : ∀ H, Fn c.ct 3 (.val (.ref 72)) [.flt (fl r), .flt (fl g), .flt (fl b)] [] H H (.tup [.flt (fl (64 * (k * spot))), .flt (fl (268435456 * share)), .flt (fl (268435456 * value))]))
  (h3 : ∀ H, Fn c.ct 3 (.val (.ref 65)) [.flt (fl r), .flt (fl g), .flt (fl b)] [] H H (.tup [.flt (fl (64 * (k * spot))), .flt (fl (33554432 * (value * (8 - share)))), .flt s2]))
  (f1 : value * (8 - share) ≤ 16 → full = .flt (Float64.ofFrac false share.natAbs (8 - share).natAbs))
  (f2 : ¬ value * (8 - share) ≤ 16 → full = .flt (Float64.ofFrac false (value * share).natAbs (32 - value * (8 - share)).natAbs) ∧ value * (8 - share) < 32)
  (q3 : EqV c.ct H 3 (.flt s2) full true) : Fn c.ct 4 (.val (.ref 290)) [.int spot, .int whole, .int x, .int odd] [] H H (.int spot) := by
 have ms := small64 b3.1 b3.2
 have mv := small64 b4.1 b4.2
 have k0 : 0 ≤ value * share := Int.mul_nonneg b4.1 b3.1
 have k1 : value * share < 2 ^ 60 := Int.lt_of_le_of_lt (Int.mul_le_mul b4.2 b3.2 b3.1 (by decide)) (by decide)
 have q1 : EqV c.ct H 3 (.flt (fl (64 * (k * spot)))) (.flt (fl (64 * (k * spot)))) true := EqV.fl (Fits.of (by lia) (by lia))
 have em : 64 * (k * spot) * whole = spot * 2 ^ 30 := by
  rw [show (64 : Int) * (k * spot) * whole = 64 * (whole * k) * spot from by rw [Int.mul_comm whole k]; simp only [Int.mul_assoc, Int.mul_comm, Int.mul_left_comm], hw]; lia
 have fm : Fits (spot * 2 ^ 30) := Fits.of (Int.mul_nonneg b0.1 (by decide)) (by lia)
 have e30 : spot * 2 ^ 30 / 2 ^ 30 = spot := Int.mul_ediv_cancel _ (by decide)
 have mul : ∀ {n : Nat}, Bin c.ct n .Mult (.flt (fl (64 * (k * spot)))) (.int whole) H H (.flt (fl (spot * 2 ^ 30))) := fun {n} => em ▸ Bin.mulFI (n := n) (H := H) (C := c.ct) (Fits.of (by lia) (by lia)) (Fits.of (by lia) (by lia)) (em.symm ▸ fm) (by lia) (Int.le_of_lt w0)
 refine' fnOf (ns := ["spot", "whole", "x", "odd"]) (vs := [.int spot, .int whole, .int x, .int odd]) (o := .ret (.int spot) H) ?ho ?hb ?hst ?hcd ?hns ?hnd ?hbind ?hbody ?hfin
 walk_at "t_of"
 case hbind => exact bind4 fun q_ q_ q_ q_ => Looks.of_pure rfl
 case hbody =>
  intro env hS; dsimp only at hS
  exact (Ex.cons (Es.assignS (vs := [.int share, .int value]) (Ev.tup (EvL.cons (Ev.bin Ev.int (Ev.bin (Ev.loc rfl) Ev.int (Bin.fmod (by decide))) (Bin.addE hs)) (EvL.cons (Ev.bin Ev.int (Ev.bin (Ev.bin (Ev.loc rfl) Ev.int (Bin.fdiv (by decide) (by decide))) Ev.int (Bin.fmod (by decide))) (Bin.addE hv)) EvL.nil))) rfl (stos_cons (il hS rfl) (stos_cons (il hS rfl) stos_nil)) (sw_of hS (by intro e he; cases e; dsimp only at he; subst he; rfl)) (ss_of hS (by intro e he; cases e; dsimp only at he; subst he; rfl)))
 (Ex.cons (Es.assign (Ev.bin (Ev.loc rfl) (Ev.bin Ev.int (Ev.loc rfl) Bin.sub) (Bin.mul (mulOk mv))) (il hS rfl) rfl)
 (Ex.cons (Es.assign (Ev.ifD (Tst.cmp (Ev.loc rfl) Ev.int Cmp.leI)
   (fun k => Ev.eqv (Ev.bin (Ev.loc rfl) (Ev.bin Ev.int (Ev.loc rfl) Bin.sub) (Bin.divII (Int.sub_pos.mpr (Int.lt_of_le_of_lt b3.2 (by decide))) b3.1 (Int.lt_of_le_of_lt b3.2 (by decide)))) (f1 (of_decide_eq_true k)).symm)
   (fun k => Ev.eqv (Ev.bin (Ev.b2 rfl rfl (Bin.mul (mulOk mv))) (Ev.bin Ev.int (Ev.loc rfl) Bin.sub) (Bin.divII (Int.sub_pos.mpr (f2 (of_decide_eq_false k)).2) k0 k1)) (f2 (of_decide_eq_false k)).1.symm)) (il hS rfl) rfl)
 (Ex.cons (Es.assignT (Ev.call (gV (g_hsv_to_rgb _) (kind_of hS rfl)) (EvA.args (EvL.cons (Ev.bin (Ev.b2 rfl rfl (Bin.part b0 hw w0)) (Ev.bin (Ev.bin (Ev.loc rfl) Ev.int (Bin.fdiv (by decide) (by decide))) Ev.int (Bin.fmodE (by decide) ht)) (Bin.turn b1 b2)) (EvL.cons (Ev.bin (Ev.loc rfl) Ev.int (Bin.quart b3)) (EvL.cons (Ev.bin (Ev.loc rfl) Ev.int (Bin.quart b4)) EvL.nil)))) (by exact h1 _) (kp_hsv_to_rgb _)) (AsL.cons (Ast.name (.inr ⟨(il hS rfl), rfl⟩)) (AsL.cons (Ast.name (.inr ⟨(il hS rfl), rfl⟩)) (AsL.cons (Ast.name (.inr ⟨(il hS rfl), rfl⟩)) AsL.nil))) (sw_of hS (by intro e he; cases e; dsimp only at he; subst he; rfl)) (ss_of hS (by intro e he; cases e; dsimp only at he; subst he; rfl)))
 (Ex.cons (Es.assignS (Ev.tup (EvL.cons (Ev.call (gV (g_rgb_to_hsv _) (kind_of hS rfl)) (EvA.loc3 rfl rfl rfl) (by exact h2 _) (kp_rgb_to_hsv _)) (EvL.cons (Ev.call (gV (g_rgb_to_hls _) (kind_of hS rfl)) (EvA.loc3 rfl rfl rfl) (by exact h3 _) (kp_rgb_to_hls _)) EvL.nil))) rfl (stos_cons (il hS rfl) (stos_cons (il hS rfl) stos_nil)) (sw_of hS (by intro e he; cases e; dsimp only at he; subst he; rfl)) (ss_of hS (by intro e he; cases e; dsimp only at he; subst he; rfl)))
 (Ex.cons (Es.assign (Ev.boolOp (BoV.nextb (Ev.cmp (Ev.loc rfl) (Ev.tup (EvL.cons (Ev.b2 rfl rfl (Bin.part b0 hw w0)) (EvL.cons (Ev.bin (Ev.loc rfl) Ev.int (Bin.quart b3)) (EvL.cons (Ev.bin (Ev.loc rfl) Ev.int (Bin.quart b4)) EvL.nil)))) (Cmp.eqT (d := 3) (EqVs.cons q1 (EqVs.cons (EqV.fl (quart_fits b3)) (EqVs.cons (EqV.fl (quart_fits b4)) EqVs.nil))) (by decide)) rfl) Tru.bool (by rfl)
  (BoV.one (Ev.cmp (Ev.loc rfl) (Ev.tup (EvL.cons (Ev.b2 rfl rfl (Bin.part b0 hw w0)) (EvL.cons (Ev.bin (Ev.loc rfl) Ev.int (Bin.octet b5)) (EvL.cons (Ev.loc rfl) EvL.nil)))) (Cmp.eqT (d := 3) (EqVs.cons q1 (EqVs.cons (EqV.fl (octet_fits b5)) (EqVs.cons q3 EqVs.nil))) (by decide)) rfl)) (fun _ => rfl))) (il hS rfl) rfl)
 (Ex.retV (Ev.eqv (Ev.ifTb (Tst.val (Ev.loc rfl) Tru.bool rfl) (by rfl) (Ev.call (gB (g_int _) (kind_of hS rfl)) (EvA.args (EvL.cons (Ev.bin (Ev.ifD (v := .flt (fl (64 * (k * spot)))) (Tst.val (Ev.loc rfl) Tru.int rfl) (fun _ => Ev.sub (Ev.loc rfl) Ev.int (Itm.tup (by decide) (by decide) rfl rfl (fun q_ q_ => rfl))) (fun _ => Ev.sub (Ev.loc rfl) Ev.int (Itm.tup (by decide) (by decide) rfl rfl (fun q_ q_ => rfl)))) (Ev.loc rfl) mul) EvL.nil)) (by exact Fn.intFl fm (Int.mul_nonneg b0.1 (by decide))) Kp.typ)) (by rw [e30])))))))))
 case hfin => exact Fin.ret
section
variable {spot turns share value : Int}
theorem light_of (b3 : 1 ≤ share) (b4 : 0 ≤ value) (k : value * (8 - share) = 8 * value - value * share) : 268435456 * value + (268435456 * value - 67108864 * (value * share)) = 2 * (33554432 * (value * (8 - share))) := by
 rw [k]; clear k b3 b4; lia
theorem light_bd (b3 : 0 ≤ share ∧ share ≤ 4) (b4 : 0 ≤ value ∧ value ≤ 4) : 0 ≤ value * (8 - share) ∧ value * (8 - share) ≤ 32 := le_prod (p := 4) (q := 8) b4 ⟨by lia, by lia⟩
theorem hue_at {j G : Int} (h : 3 * spot = 8388608 * j + G) : 6 * (64 * spot) = 2 ^ 30 * j + 128 * G := by lia
theorem wheel_q (v s g : Int) : 8 * (v * (s * g)) * 2 ^ 30 = 128 * g * (67108864 * (v * s)) := by
 rw [← Int.mul_assoc v, Int.mul_comm (v * s) g]
 exact (prod (a := 128) (b := 67108864) (c := 8) g (v * s) (by decide)).symm
theorem fn_told (c : C1) (H : List HObj) {whole k x odd : Int} (b0 : 0 ≤ spot ∧ spot < whole) (hw : whole * k = 16777216) (w0 : 0 < whole) (w1 : whole ≤ 262144) (x0 : 0 ≤ x) : Fn c.ct 4 (.val (.ref 290)) [.int spot, .int whole, .int x, .int odd] [] H H (.int spot) := by
 have k0 : 0 < k := by
  refine Int.not_le.mp fun h => ?_
  have := Int.mul_nonneg_of_nonpos_of_nonpos (a := -whole) (b := k) (by lia) h
  rw [Int.neg_mul] at this; lia
 have b1 : 0 ≤ k * spot ∧ k * spot < 16777216 := ⟨Int.mul_nonneg (Int.le_of_lt k0) b0.1, by rw [← hw, Int.mul_comm whole]; exact Int.mul_lt_mul_of_pos_left b0.2 k0⟩
 have m4 : ∀ y : Int, 0 ≤ y.fmod 4 ∧ y.fmod 4 ≤ 3 := fun y => by rw [Int.fmod_eq_emod_of_nonneg _ (by decide)]; lia
 have b2 := m4 (x.fdiv 16)
 have c3 := m4 x
 have c4 := m4 (x.fdiv 4)
 generalize ht : (x.fdiv 16).fmod 4 = turns at b2
 generalize hs : x.fmod 4 = s0 at c3
 generalize hv : (x.fdiv 4).fmod 4 = v0 at c4
 have b3' : 1 ≤ 1 + s0 ∧ 1 + s0 ≤ 4 := by omega
 have b4' : 1 ≤ 1 + v0 ∧ 1 + v0 ≤ 4 := by omega
 have hs : 1 + x.fmod 4 = 1 + s0 := congrArg (1 + ·) hs
 have hv : 1 + (x.fdiv 4).fmod 4 = 1 + v0 := congrArg (1 + ·) hv
 clear c3 c4 m4
 generalize 1 + s0 = share at b3' hs
 generalize 1 + v0 = value at b4' hv
 have b3 : 0 ≤ share ∧ share ≤ 4 := ⟨Int.le_trans (by decide) b3'.1, b3'.2⟩
 have b4 : 0 ≤ value ∧ value ≤ 4 := ⟨Int.le_trans (by decide) b4'.1, b4'.2⟩
 have b5 := light_bd b3 b4
 have bW := le_mul 4 268435456 b4 (by decide) (by decide)
 obtain ⟨d1, d2, d3, d5, d7⟩ := darkQ b3' b4'
 have s := six_of b1
 have k1 : 0 < value * share := Int.mul_pos b4'.1 b3'.1
 have kD : 67108864 * (value * share) ≤ 268435456 * value := by
  have := Int.mul_le_mul_of_nonneg_left b3.2 b4.1; clear s; omega
 have bg := le_prod b3 s.g0
 have kE : 8 * (value * (share * (3 * (k * spot) % 8388608))) < 67108864 * (value * share) := by
  have := down3 (Int.mul_le_mul_of_nonneg_left s.g0.2 (Int.le_of_lt k1)) k1
  rwa [Int.mul_assoc] at this
 have rg := rgb_of s.jc bW (Int.mul_nonneg (by decide) (Int.le_of_lt k1)) kD (Int.mul_nonneg (by decide) (Int.mul_nonneg b4.1 bg.1)) (Int.le_of_lt kE)
 obtain ⟨RC, GC, BC, X, W, hX⟩ := wheel_of (W := 268435456 * value) s.jc (hue_at s.at_) b1 (Int.mul_pos (by decide) k1) kE (le_mul 8388607 128 s.g0 (by decide) (by decide)) (wheel_q _ _ _) (fun h => by
  rcases Int.mul_eq_zero.mp h with h | h
  ·cases h
  ·rw [((Int.mul_eq_zero.mp ((Int.mul_eq_zero.mp h).resolve_left (Int.ne_of_gt b4'.1))).resolve_left (Int.ne_of_gt b3'.1))]; rfl)
 have e8 : value * (8 - share) = 8 * value - value * share := by rw [Int.mul_sub, Int.mul_comm value 8]
 have hS := prod (a := 268435456) (b := 268435456) (c := 67108864) value share (by decide)
 have sound : ∀ {s : UInt64} {H}, Sound s → EqV c.ct H 3 (.flt s) (.flt s) true := fun h => EqV.flt _ h.1 h.2
 have nD : 268435456 * value - 67108864 * (value * share) ≠ 268435456 * value := by lia
 have h2 : ∀ H, Fn c.ct 3 (.val (.ref 72)) _ [] H H (.tup [.flt (fl (64 * (k * spot))), .flt (fl (268435456 * share)), .flt (fl (268435456 * value))]) := fun H => rgb_hsv c H rg (fun h => absurd h nD) fun q_ => ⟨RC, GC, BC, X, 268435456 * share, W, by rw [Int.sub_sub_self, ← hS, Int.mul_comm], quart_fits b3, by rw [hX]⟩
 have h3 : ∀ {st : UInt64}, Sat (268435456 * value) (268435456 * value - 67108864 * (value * share)) (33554432 * (value * (8 - share))) st → ∀ H, Fn c.ct 3 (.val (.ref 65)) _ [] H H (.tup [.flt (fl (64 * (k * spot))), .flt (fl (33554432 * (value * (8 - share)))), .flt st]) := fun hs H =>
  rgb_hls c H rg (light_of b3'.1 b4.1 e8) (fun h => absurd h nD) fun q_ => ⟨RC, GC, BC, X, _, W, hs, by rw [hX]⟩
 have h1 := fun H => painted_rgb c H (turns := turns) s b1 b2 b3' b4
 by_cases hl : value * (8 - share) ≤ 16
 ·exact told_walk c H b0 hw w0 w1 x0 ht hs hv b1 b2 b3 b4 b5 h1 h2 (h3 (.inl ⟨by clear s; lia, d1.symm⟩)) (fun _ => rfl) (fun h => absurd hl h) (sound d3)
 ·exact told_walk c H b0 hw w0 w1 x0 ht hs hv b1 b2 b3 b4 b5 h1 h2 (h3 (.inr ⟨by clear s; lia, by clear s; lia, d2.symm⟩)) (fun h => absurd h hl) (fun _ => ⟨rfl, d7⟩) (sound d5)
end
end
noncomputable def treesF : Nat → Nat → List (List Nat)
 | 0, _ => [[0]]
 | f + 1, n => if n ≤ 1 then [[0]] else (List.range (n - 1)).flatMap fun k => (treesF f (k + 1)).flatMap fun a => (treesF f (n - 1 - k)).map fun b => (a ++ b).map (· + 1)
noncomputable abbrev trees (n : Nat) : List (List Nat) := treesF n n
noncomputable def dot : List Nat → List Nat → Nat
 | a :: c, b :: w => a * b + dot c w
 | _, _ => 0
noncomputable def vadd : List Nat → List Nat → List Nat
 | [], b => b
 | a, [] => a
 | a :: x, b :: y => (a + b) :: vadd x y
noncomputable def smul (t : Nat) (a : List Nat) : List Nat := a.map (t * ·)
noncomputable def le2 : List Nat → List Nat → Bool
 | [], _ => true
 | a :: x, [] => Nat.beq a 0 && le2 x []
 | a :: x, b :: y => Nat.ble a b && le2 x y
noncomputable def unit (j : Nat) : List Nat := List.replicate j 0 ++ [1]
theorem dot_vadd : ∀ (a b w : List Nat), dot (vadd a b) w = dot a w + dot b w
 | [], b, w => by rw [vadd, show dot [] w = 0 from rfl, Nat.zero_add]
 | a :: x, [], w => by rw [vadd, show dot [] w = 0 from rfl]; rfl; intro h; cases h
 | a :: x, b :: y, [] => rfl
 | a :: x, b :: y, c :: w => by
  show (a + b) * c + dot (vadd x y) w = a * c + dot x w + (b * c + dot y w)
  rw [dot_vadd x y w, Nat.add_mul]; lia
theorem dot_smul (t : Nat) : ∀ (a w : List Nat), dot (smul t a) w = t * dot a w
 | [], w => rfl
 | a :: x, [] => rfl
 | a :: x, c :: w => by
  show t * a * c + dot (smul t x) w = t * (a * c + dot x w)
  rw [dot_smul t x w, Nat.mul_add, Nat.mul_assoc]
theorem dot_le2 : ∀ {a b : List Nat} (w : List Nat), le2 a b = true → dot a w ≤ dot b w
 | [], b, w, _ => Nat.zero_le _
 | a :: x, b, [], _ => Nat.zero_le _
 | a :: x, [], c :: w, h => by
  have h := Bool.and_eq_true_iff.mp h
  rw [show dot (a :: x) (c :: w) = a * c + dot x w from rfl, Nat.eq_of_beq_eq_true h.1, Nat.zero_mul, Nat.zero_add]
  exact dot_le2 (b := []) w h.2
 | a :: x, b :: y, c :: w, h => by
  have h := Bool.and_eq_true_iff.mp h
  exact Nat.add_le_add (Nat.mul_le_mul_right c (Nat.le_of_ble_eq_true h.1)) (dot_le2 w h.2)
theorem dot_unit : ∀ (j : Nat) (w : List Nat), dot (unit j) w = w.getD j 0
 | 0, [] => rfl
 | 0, c :: w => by show 1 * c + dot [] w = c; rw [Nat.one_mul]; rfl
 | j + 1, [] => rfl
 | j + 1, c :: w => by
  show 0 * c + dot (unit j) w = w.getD j 0
  rw [Nat.zero_mul, Nat.zero_add, dot_unit j w]
structure Bnd where
 lo : List Nat
 c : Nat
 hi : List Nat
noncomputable def Bnd.on (b : Bnd) (w : List Nat) : Prop := dot b.lo w + b.c ≤ dot b.hi w
noncomputable def chk : List Bnd → Nat → List Nat → List Nat → Nat → Bool
 | [], _, A, B, k => le2 A B && Nat.beq k 0
 | b :: C, q, A, B, k => chk C (q / 3) (vadd A (smul (q % 3) b.hi)) (vadd B (smul (q % 3) b.lo)) (k - q % 3 * b.c)
theorem chk_ok {w : List Nat} : ∀ {C : List Bnd} {q : Nat} {A B : List Nat} {k : Nat}, (∀ b ∈ C, b.on w) → chk C q A B k = true → dot A w + k ≤ dot B w
 | [], q, A, B, k, _, h => by
  have h := Bool.and_eq_true_iff.mp h
  rw [Nat.eq_of_beq_eq_true h.2]; exact dot_le2 w h.1
 | b :: C, q, A, B, k, hC, h => by
  have i := chk_ok (fun x m => hC x (.tail _ m)) h
  rw [dot_vadd, dot_vadd, dot_smul, dot_smul] at i
  have u : dot b.lo w + b.c ≤ dot b.hi w := hC b (.head _)
  have v := Nat.mul_le_mul_left (q % 3) u
  rw [Nat.mul_add] at v
  generalize q % 3 * dot b.lo w = x1 at i v
  generalize q % 3 * dot b.hi w = x2 at i v
  generalize q % 3 * b.c = x3 at i v
  lia
noncomputable def bnds (n a p : Nat) : List Bnd :=
 (List.range a).map (fun j => ⟨unit (j + 2), 1, unit j⟩) ++ (if a + 2 < n then [⟨unit a, 0, unit (a + 2)⟩] else []) ++
 (if 0 < p then [⟨vadd (unit a) (unit (a + 1)), 0, unit (p - 1)⟩] else []) ++ (List.range (a - p)).map fun j => ⟨unit (p + j), 1, vadd (unit a) (unit (a + 1))⟩
noncomputable def back (a p : Nat) (d : List Nat) : List Nat := d.take p ++ ((d.drop (p + 1)).take (a - p) ++ ((d.getD p 0 + 1) :: (d.getD p 0 + 1) :: d.drop (a + 1)))
noncomputable def nxt (a p : Nat) (w : List Nat) : List Nat := w.take p ++ ((w.getD a 0 + w.getD (a + 1) 0) :: ((w.drop p).take (a - p) ++ w.drop (a + 2)))
noncomputable def leaf (m : List (List Nat)) (c : Nat) : List Nat := m.getD (c % 16) [0]
noncomputable def stepOk (n a p big : Nat) : Bool :=
 let tn := trees n; let tm := trees (n - 1); let C := bnds n a p
 ((tn.zipIdx.all fun x => let c := big / 2 ^ (17 * x.2) % 2 ^ 17; Nat.blt (c % 16) tm.length && chk C (c / 16) (back a p (leaf tm c)) x.1 0) &&
 (tm.zipIdx.all fun x => let c := big / 2 ^ (17 * (tn.length + x.2)) % 2 ^ 17; tn.contains (back a p x.1) || (Nat.blt (c % 16) tm.length && chk C (c / 16) (back a p (leaf tm c)) (back a p x.1) 1))) && tm.all fun d => Nat.beq d.length (n - 1)
noncomputable def bigs : List (Nat × Nat × Nat × Nat) := [(2, 0, 0, 0), (3, 0, 0, 16), (3, 1, 0, 2097152), (3, 1, 1, 2097152), (4, 0, 0, 295186185776187572240), (4, 1, 0, 5017516639848830599360), (4, 1, 1, 5017516642322712887344), (4, 2, 0, 2190500237208547613321303156588688), (4, 2, 1, 2920666983010843570088095934054400), (4, 2, 2, 14462357691996345204736), (5, 0, 0, 13480487554337989497106980026563987160643222780131049787246709309456), (5, 1, 0, 3821138944898834418490342635635583604997440330774995524378785502726335313739968), (5, 1, 1, 67399969540746872649293085669173916787767142187491076629772191662128), (5, 2, 0, 169351022928543835268099193006114785702278311471341505247029283782843824368941668220039980122690), (5, 2, 1, 225670993602239706581163490066541188748911923788682721283133301173393434722186894079082243294624), (5, 2, 2, 175240990309716696187663983794032169304198318609160852884234784735376), (5, 3, 0, 2350533624870123291883934484826425369828244676679078370031825646285827684308057775139482501554), (5, 3, 1, 507140493577223919069959552123775581922552534588239117168188158736998301471876708437297308108048), (5, 3, 2, 2346682353727465948492186675673379164749496962874737712255909769410535030530471518260502200320), (5, 3, 3, 1469328277677529726906430400612700910781011118060134463730585819938816), (6, 0, 0, 8547866317714178716037706100266549970131325035964243004059569865218772671582534009837833868337539056614913248162595807848999309274709345126350437345226103966448059064356602728537851399979474995151974244445847568), (6, 1, 0, 9673361776165745477642940397643075850913617840215054360050258558978114958149075388220711919519149912969219846983737639199680409955906542831668188736146480017758611059633545909808807126945512683259967148787056760019934457067451813544171433887342508445642330497118896320), (6, 1, 1, 19068057863018002973242805115475182962955272395268704707768849517033405037213308289139403010861235938944152666415244628110488493892950368088841711555114932699095755385137427671474535958056686463241952148798308400), (6, 2, 0, 379886350837683641824392295731421209856271463551910051065997679760821230322664013585621919187336663281036820359954335214174518108542243947685596485337980535041448932549763474828658248559352585105115252508973127502700780162285267816499449977173270207577402153467137841114280528976675397), (6, 2, 1, 505353402490496587747779065131171966458262858157643437403295624381739435048808936923797592604418352701064889721436682255058041089633924642839980357152971486772575427847156850264112376338369518788222174760368089644296194296218846807191177017866010747501198329766405783455640901906335136), (6, 2, 2, 40108842253651025248987877957884326766142366350420862783104421669034458545520591074352831664999005812581591575564835338811882753298586860957921299110485219004156644906941844013528655162844193565399105744467394704), (6, 3, 0, 7867558302798225198486373863937057810402424308989943950414367863434998153085477823473821749264834023587634252285601956754442974604799425101745836237371921935163309199787571177778045083010725715894485384893639683736369214700358891603160273521355566592387170851662596232644452539827477), (6, 3, 1, 3390805215126783275679420634139504913621379733713626474259214819283633630856509838009533823163417571842821816354956072240287705450322560691450174083752116183449379066259552716757804635174607196608547406317420530611306237451015067512642764595211992589661981168094913717525701122433749218), (6, 3, 2, 7841748339825972035370960773309910151551083881327328627004115167366152060309900625874296788846384936919112274872879039765037644922893129391429981414682828505388805602398547497140758287207029935051604032062045850309891922033823744812751444311803611578454426296997941066257911099953376), (6, 3, 3, 860696298421976675193991080841697199601852348737141571561308617230001967898065285024845589075530435334545211398411873957358906635386095158604942903691987925474172987631629715518442784662297008369941003166954815920), (6, 4, 0, 10164941767158520017082193909583499407305512878353587600933766379538597374393105582786536484710788161711896435298831838653268229204669598376397088022825625098781430323225340056359047168856137243661075664347986943196351695475270218131698689670493054413419066600977489243665419627666212117), (6, 4, 1, 10164941767158515510293048879977053302630766920407334883830976563492443242662910879756852293621258847626730093280801169652636218946683903510510652430513466091796686969101840032233489165001310424461554477106015887391656038878070218565819575410164677200505860924039640555487083538445242162), (6, 4, 2, 15973936317985664994339699304265238991917732287521594828148382272797077506907741077253211132265687787594008269666863259817056407320736147738625207652218371817829781668438425617655258166611468003069337831591826368641459761156468006407725813600728837019029592754922988903999418042158896), (6, 4, 3, 15973936317984166784067806753379926980895965365597128109940828267048222901291770895325796195841690252945191899610949913597696040812813401984172857466010354590701233662398872290448164062634528233446572102932683303206289471328062052628759532795972229910052173501179127285139784020787200), (6, 4, 4, 860038781445191134175160600046968619910314075566359787883747874873446732752777871882548355676356788261410655852965606377882273287490307391491902013174348169050650889031781196073631308734346202665267529169521082368)]
theorem big_ok : ∀ n ≤ 6, (bigs.all fun x => !(Nat.beq x.1 n) || stepOk x.1 x.2.1 x.2.2.1 x.2.2.2) = true
 | 0, _ => by decide +kernel
 | 1, _ => by decide +kernel
 | 2, _ => by decide +kernel
 | 3, _ => by decide +kernel
 | 4, _ => by decide +kernel
 | 5, _ => by decide +kernel
 | 6, _ => by decide +kernel
 | n + 7, h => absurd h (by lia)
theorem dot_app : ∀ (a b x y : List Nat), a.length = x.length → dot (a ++ b) (x ++ y) = dot a x + dot b y
 | [], b, [], y, _ => (Nat.zero_add _).symm
 | i :: a, b, j :: x, y, h => by
  show i * j + dot (a ++ b) (x ++ y) = i * j + dot a x + dot b y
  rw [dot_app a b x y (Nat.succ.inj h), Nat.add_assoc]
structure IsStep (w : List Nat) (a p : Nat) : Prop where
 le : p ≤ a
 lt : a + 1 < w.length
 dn : ∀ j, j < a → w.getD (j + 2) 0 + 1 ≤ w.getD j 0
 up : a + 2 < w.length → w.getD a 0 ≤ w.getD (a + 2) 0
 big : 0 < p → w.getD a 0 + w.getD (a + 1) 0 ≤ w.getD (p - 1) 0
 low : ∀ j, p ≤ j → j < a → w.getD j 0 + 1 ≤ w.getD a 0 + w.getD (a + 1) 0
theorem IsStep.bnds {w : List Nat} {a p : Nat} (h : IsStep w a p) : ∀ b ∈ bnds w.length a p, b.on w := by
 intro b m
 unfold Mine.bnds at m
 rcases List.mem_append.mp m with m | m
 ·rcases List.mem_append.mp m with m | m
  ·rcases List.mem_append.mp m with m | m
   ·obtain ⟨j, hj, rfl⟩ := List.mem_map.mp m
    show dot (unit (j + 2)) w + 1 ≤ dot (unit j) w
    rw [dot_unit, dot_unit]; exact h.dn j (List.mem_range.mp hj)
   ·by_cases q : a + 2 < w.length
    ·rw [if_pos q] at m
     obtain rfl := List.mem_singleton.mp m
     show dot (unit a) w + 0 ≤ dot (unit (a + 2)) w
     rw [dot_unit, dot_unit]; exact h.up q
    ·rw [if_neg q] at m; cases m
  ·by_cases q : 0 < p
   ·rw [if_pos q] at m
    obtain rfl := List.mem_singleton.mp m
    show dot (vadd (unit a) (unit (a + 1))) w + 0 ≤ dot (unit (p - 1)) w
    rw [dot_vadd, dot_unit, dot_unit, dot_unit]; exact h.big q
   ·rw [if_neg q] at m; cases m
 ·obtain ⟨j, hj, rfl⟩ := List.mem_map.mp m
  show dot (unit (p + j)) w + 1 ≤ dot (vadd (unit a) (unit (a + 1))) w
  rw [dot_vadd, dot_unit, dot_unit, dot_unit]
  exact h.low (p + j) (Nat.le_add_right _ _) (by have := List.mem_range.mp hj; omega)
theorem getD_drop (w : List Nat) : ∀ {i : Nat}, i < w.length → w.drop i = w.getD i 0 :: w.drop (i + 1) := by
 intro i h
 rw [List.drop_eq_getElem_cons h, List.getD_eq_getElem?_getD, List.getElem?_eq_getElem h]; rfl
theorem dot_back {w d : List Nat} {a p : Nat} (hp : p ≤ a) (ha : a + 1 < w.length) (hd : d.length + 1 = w.length) : dot (back a p d) w = dot d (nxt a p w) + (w.getD a 0 + w.getD (a + 1) 0) := by
 have hpd : p < d.length := by lia
 have ed : d = d.take p ++ (d.getD p 0 :: ((d.drop (p + 1)).take (a - p) ++ d.drop (a + 1))) := by
  rw [show d.drop (a + 1) = (d.drop (p + 1)).drop (a - p) from by rw [List.drop_drop]; congr 1; lia, List.take_append_drop, ← getD_drop d hpd, List.take_append_drop]
 have ew : w = w.take p ++ ((w.drop p).take (a - p) ++ (w.getD a 0 :: w.getD (a + 1) 0 :: w.drop (a + 2))) := by
  rw [← getD_drop w ha, ← getD_drop w (Nat.lt_of_succ_lt ha), show w.drop a = (w.drop p).drop (a - p) from by rw [List.drop_drop]; congr 1; lia, List.take_append_drop, List.take_append_drop]
 have l1 : (d.take p).length = (w.take p).length := by rw [List.length_take, List.length_take]; lia
 have l2 : ((d.drop (p + 1)).take (a - p)).length = ((w.drop p).take (a - p)).length := by rw [List.length_take, List.length_take, List.length_drop, List.length_drop]; lia
 have e1 : dot (back a p d) w = dot (d.take p) (w.take p) + (dot ((d.drop (p + 1)).take (a - p)) ((w.drop p).take (a - p)) + ((d.getD p 0 + 1) * w.getD a 0 + ((d.getD p 0 + 1) * w.getD (a + 1) 0 + dot (d.drop (a + 1)) (w.drop (a + 2))))) :=
  (congrArg (dot (back a p d)) ew).trans ((dot_app _ _ _ _ l1).trans (congrArg _ ((dot_app _ _ _ _ l2).trans rfl)))
 have e2 : dot d (nxt a p w) = dot (d.take p) (w.take p) + (d.getD p 0 * (w.getD a 0 + w.getD (a + 1) 0) + (dot ((d.drop (p + 1)).take (a - p)) ((w.drop p).take (a - p)) + dot (d.drop (a + 1)) (w.drop (a + 2)))) :=
  (congrArg (dot · (nxt a p w)) ed).trans ((dot_app _ _ _ _ l1).trans (congrArg _ (congrArg (d.getD p 0 * (w.getD a 0 + w.getD (a + 1) 0) + ·) (dot_app _ _ _ _ l2))))
 rw [e1, e2, Nat.add_mul, Nat.add_mul, Nat.mul_add, Nat.one_mul, Nat.one_mul]
 generalize dot (d.take p) (w.take p) = z1
 generalize dot ((d.drop (p + 1)).take (a - p)) ((w.drop p).take (a - p)) = z2
 generalize dot (d.drop (a + 1)) (w.drop (a + 2)) = z3
 generalize d.getD p 0 * w.getD a 0 = z4
 generalize d.getD p 0 * w.getD (a + 1) 0 = z5
 lia
noncomputable def Best (d w : List Nat) : Prop := d ∈ trees w.length ∧ ∀ t ∈ trees w.length, dot d w ≤ dot t w
theorem nxt_len {w : List Nat} {a p : Nat} (hp : p ≤ a) (ha : a + 1 < w.length) : (nxt a p w).length + 1 = w.length := by
 unfold nxt
 rw [List.length_append, List.length_cons, List.length_append, List.length_take, List.length_take, List.length_drop, List.length_drop]; lia
theorem leaf_mem {m : List (List Nat)} {c : Nat} (h : Nat.blt (c % 16) m.length = true) : leaf m c ∈ m := by
 unfold leaf
 have h : c % 16 < m.length := Nat.le_of_ble_eq_true h
 rw [List.getD_eq_getElem?_getD, List.getElem?_eq_getElem h]; exact List.getElem_mem h
theorem step_ok {w d : List Nat} {a p big : Nat} (h : IsStep w a p) (k : stepOk w.length a p big = true) (b : Best d (nxt a p w)) : Best (back a p d) w := by
 have k := Bool.and_eq_true_iff.mp k
 have k1 := Bool.and_eq_true_iff.mp k.1
 have ln : (nxt a p w).length = w.length - 1 := by have := nxt_len h.le h.lt; lia
 have hl : ∀ t ∈ trees (w.length - 1), t.length + 1 = w.length := fun t m => by
  have := Nat.eq_of_beq_eq_true (List.all_eq_true.mp k.2 t m)
  have := h.lt
  lia
 have hb : ∀ t ∈ trees (w.length - 1), dot (back a p d) w ≤ dot (back a p t) w := fun t m => by
  rw [dot_back h.le h.lt (hl d (ln ▸ b.1)), dot_back h.le h.lt (hl t m)]
  exact Nat.add_le_add_right (b.2 t (ln ▸ m)) _
 refine ⟨?_, fun t m => ?_⟩
 ·obtain ⟨i, hi⟩ := List.getElem?_of_mem (ln ▸ b.1 : d ∈ trees (w.length - 1))
  have q := List.all_eq_true.mp k1.2 (d, i) (List.mem_zipIdx_iff_getElem?.mpr hi)
  rcases Bool.or_eq_true_iff.mp q with q | q
  ·exact List.contains_iff_mem.mp q
  ·have q := Bool.and_eq_true_iff.mp q
   have z := chk_ok h.bnds q.2
   have := hb _ (leaf_mem q.1)
   exact absurd (Nat.lt_of_lt_of_le z this) (Nat.lt_irrefl _)
 ·obtain ⟨i, hi⟩ := List.getElem?_of_mem m
  have q := Bool.and_eq_true_iff.mp (List.all_eq_true.mp k1.1 (t, i) (List.mem_zipIdx_iff_getElem?.mpr hi))
  exact Nat.le_trans (hb _ (leaf_mem q.1)) (chk_ok h.bnds q.2)
theorem steps {n a p : Nat} (hn : n ≤ 6) (ha : a + 1 < n) (hp : p ≤ a) : ∃ big, stepOk n a p big = true := by
 have all : ((List.range 7).all fun n => (List.range 7).all fun a => (List.range 7).all fun p => !(Nat.blt (a + 1) n && Nat.ble p a) || bigs.any fun x => Nat.beq x.1 n && (Nat.beq x.2.1 a && Nat.beq x.2.2.1 p)) = true := by decide +kernel
 have q := List.all_eq_true.mp (List.all_eq_true.mp (List.all_eq_true.mp all n (List.mem_range.mpr (by exact Nat.succ_le_succ (by assumption)))) a (List.mem_range.mpr (by lia))) p (List.mem_range.mpr (by lia))
 rw [show Nat.blt (a + 1) n = true from Nat.ble_eq_true_of_le ha, Nat.ble_eq_true_of_le hp] at q
 obtain ⟨x, m, q⟩ := List.any_eq_true.mp q
 have q := Bool.and_eq_true_iff.mp q
 have q2 := Bool.and_eq_true_iff.mp q.2
 have r := List.all_eq_true.mp (big_ok n hn) x m
 rw [q.1] at r
 refine ⟨x.2.2.2, ?_⟩
 rw [← Nat.eq_of_beq_eq_true q.1, ← Nat.eq_of_beq_eq_true q2.1, ← Nat.eq_of_beq_eq_true q2.2]; exact r
noncomputable def minL : List Nat → Nat
 | [] => 0
 | a :: r => match r with
  | [] => a
  | _ :: _ => min a (minL r)
theorem minL_cons {a : Nat} {r : List Nat} (h : r ≠ []) : minL (a :: r) = min a (minL r) := by
 cases r with
 | nil => exact absurd rfl h
 | cons b r => rfl
theorem minL_both {r : List Nat} (h : r ≠ []) : minL r ∈ r ∧ ∀ x ∈ r, minL r ≤ x := by
 induction r with
 | nil => exact absurd rfl h
 | cons a r ih =>
  by_cases e : r = []
  ·subst e; exact ⟨.head _, fun x m => by rw [List.mem_singleton.mp m]; exact Nat.le_refl _⟩
  ·obtain ⟨i1, i2⟩ := ih e
   rw [minL_cons e]
   refine ⟨?_, fun x m => ?_⟩
   ·rcases Nat.le_total a (minL r) with q | q
    ·rw [Nat.min_eq_left q]; exact .head _
    ·rw [Nat.min_eq_right q]; exact .tail _ i1
   ·rcases List.mem_cons.mp m with rfl | m
    ·exact Nat.min_le_left _ _
    ·exact Nat.le_trans (Nat.min_le_right _ _) (i2 x m)
noncomputable def optF : Nat → List Nat → Nat
 | 0, _ => 0
 | f + 1, w => if w.length ≤ 1 then 0 else w.sum + minL ((List.range (w.length - 1)).map fun k => optF f (w.take (k + 1)) + optF f (w.drop (k + 1)))
theorem mem_trees {f n : Nat} (hn : 1 < n) {t : List Nat} : t ∈ treesF (f + 1) n ↔ ∃ k, k < n - 1 ∧ ∃ a ∈ treesF f (k + 1), ∃ b ∈ treesF f (n - 1 - k), (a ++ b).map (· + 1) = t := by
 show t ∈ (if n ≤ 1 then _ else _) ↔ _
 rw [if_neg (Nat.not_le.mpr hn)]
 simp only [List.mem_flatMap, List.mem_map, List.mem_range]
theorem trees_one {f n : Nat} (hn : n ≤ 1) : treesF f n = [[0]] := by
 cases f with
 | zero => rfl
 | succ f => exact if_pos hn
theorem trees_len {f : Nat} : ∀ {n : Nat} {t : List Nat}, 1 ≤ n → n ≤ f → t ∈ treesF f n → t.length = n := by
 induction f with
 | zero => intro n t h1 h2; exact absurd (Nat.le_trans h1 h2) (by decide)
 | succ f ih =>
  intro n t h1 h2 m
  by_cases q : n ≤ 1
  ·rw [trees_one q] at m
   rw [List.mem_singleton.mp m]; exact Nat.le_antisymm h1 q
  ·obtain ⟨k, hk, a, ha, b, hb, rfl⟩ := (mem_trees (Nat.not_le.mp q)).mp m
   rw [List.length_map, List.length_append, ih (by exact Nat.succ_pos _) (by lia) ha, ih (by omega) (by omega) hb]; lia
theorem dot_one : ∀ {a w : List Nat}, a.length = w.length → dot (a.map (· + 1)) w = w.sum + dot a w
 | [], [], _ => rfl
 | i :: a, j :: w, h => by
  show (i + 1) * j + dot (a.map (· + 1)) w = _
  rw [dot_one (Nat.succ.inj h), List.sum_cons, show dot (i :: a) (j :: w) = i * j + dot a w from rfl, Nat.add_mul, Nat.one_mul]; lia
theorem dot_join {a b w : List Nat} {k : Nat} (ha : a.length = (w.take k).length) (hb : b.length = (w.drop k).length) : dot ((a ++ b).map (· + 1)) w = w.sum + (dot a (w.take k) + dot b (w.drop k)) := by
 rw [dot_one (by rw [List.length_append, ha, hb, ← List.length_append, List.take_append_drop])]
 exact congrArg _ ((congrArg (dot (a ++ b)) (List.take_append_drop k w).symm).trans (dot_app _ _ _ _ ha))
theorem opt_ok {f : Nat} : ∀ {w : List Nat}, 1 ≤ w.length → w.length ≤ f → (∀ t ∈ treesF f w.length, optF f w ≤ dot t w) ∧ ∃ t ∈ treesF f w.length, optF f w = dot t w := by
 induction f with
 | zero => intro w h1 h2; exact absurd (Nat.le_trans h1 h2) (by decide)
 | succ f ih =>
  intro w h1 h2
  by_cases q : w.length ≤ 1
  ·rw [trees_one q, show optF (f + 1) w = 0 from if_pos q]
   refine ⟨fun t m => Nat.zero_le _, [0], .head _, ?_⟩
   cases w with
   | nil => rfl
   | cons x w => show 0 = 0 * x + dot [] w; rw [Nat.zero_mul]; rfl
  ·have q := Nat.not_le.mp q
   have e : optF (f + 1) w = w.sum + minL ((List.range (w.length - 1)).map fun k => optF f (w.take (k + 1)) + optF f (w.drop (k + 1))) := if_neg (Nat.not_le.mpr q)
   have ne : ((List.range (w.length - 1)).map fun k => optF f (w.take (k + 1)) + optF f (w.drop (k + 1))) ≠ [] := fun z => by
    have := congrArg List.length z
    rw [List.length_map, List.length_range, List.length_nil] at this; lia
   obtain ⟨m1, m2⟩ := minL_both ne
   have lt : ∀ k, k < w.length - 1 → (w.take (k + 1)).length = k + 1 := fun k h => by rw [List.length_take]; lia
   have ld : ∀ k, k < w.length - 1 → (w.drop (k + 1)).length = w.length - 1 - k := fun k h => by rw [List.length_drop]; lia
   rw [e]
   refine ⟨fun t m => ?_, ?_⟩
   ·obtain ⟨k, hk, a, ha, b, hb, rfl⟩ := (mem_trees q).mp m
    have la := trees_len (by exact Nat.succ_pos _) (by lia) ha
    have lb := trees_len (by omega) (by omega) hb
    rw [dot_join (k := k + 1) (la.trans (lt k hk).symm) (lb.trans (ld k hk).symm)]
    refine Nat.add_le_add_left (Nat.le_trans (m2 _ (List.mem_map.mpr ⟨k, List.mem_range.mpr hk, rfl⟩)) (Nat.add_le_add ?_ ?_)) _
    ·have i := (ih (w := w.take (k + 1)) (by rw [lt k hk]; exact Nat.succ_pos _) (by rw [lt k hk]; lia)).1
     rw [lt k hk] at i; exact i a ha
    ·have i := (ih (w := w.drop (k + 1)) (by rw [ld k hk]; lia) (by rw [ld k hk]; omega)).1
     rw [ld k hk] at i; exact i b hb
   ·obtain ⟨k, hk, ek⟩ := List.mem_map.mp m1
    have hk := List.mem_range.mp hk
    obtain ⟨a, ha, ea⟩ := (ih (w := w.take (k + 1)) (by rw [lt k hk]; exact Nat.succ_pos _) (by rw [lt k hk]; omega)).2
    obtain ⟨b, hb, eb⟩ := (ih (w := w.drop (k + 1)) (by rw [ld k hk]; omega) (by rw [ld k hk]; omega)).2
    rw [lt k hk] at ha
    rw [ld k hk] at hb
    refine ⟨(a ++ b).map (· + 1), (mem_trees q).mpr ⟨k, hk, a, ha, b, hb, rfl⟩, ?_⟩
    rw [dot_join (k := k + 1) ((trees_len (by exact Nat.succ_pos _) (by lia) ha).trans (lt k hk).symm) ((trees_len (by omega) (by omega) hb).trans (ld k hk).symm), ← ek, ea, eb]
theorem best_opt {d w : List Nat} (h : Best d w) (h1 : 1 ≤ w.length) : dot d w = optF w.length w := by
 obtain ⟨o1, t, m, o2⟩ := opt_ok (f := w.length) h1 (Nat.le_refl _)
 exact Nat.le_antisymm (o2 ▸ h.2 t m) (o1 d h.1)
noncomputable def atF : List Nat → Nat
 | [] => 0
 | a :: r => match r.drop 1 with
  | [] => 0
  | c :: _ => if a ≤ c then 0 else atF r + 1
noncomputable def placeF (b : Nat) : List Nat → Nat
 | [] => 0
 | x :: r => if 0 < placeF b r then placeF b r + 1 else if b ≤ x then 1 else 0
theorem place_le {b : Nat} : ∀ {l : List Nat}, placeF b l ≤ l.length
 | [] => Nat.le_refl _
 | x :: r => by
  show (if 0 < placeF b r then placeF b r + 1 else if b ≤ x then 1 else 0) ≤ r.length + 1
  have := place_le (b := b) (l := r)
  split <;> first | omega | (split <;> exact Nat.le_add_left _ _)
theorem place_big {b : Nat} : ∀ {l : List Nat}, 0 < placeF b l → b ≤ l.getD (placeF b l - 1) 0
 | [], h => absurd h (Nat.lt_irrefl 0)
 | x :: r, h => by
  by_cases q : 0 < placeF b r
  ·have e : placeF b (x :: r) = placeF b r + 1 := if_pos q
   rw [e, show placeF b r + 1 - 1 = placeF b r - 1 + 1 from by lia]
   exact place_big q
  ·by_cases q2 : b ≤ x
   ·have e : placeF b (x :: r) = 1 := (if_neg q).trans (if_pos q2)
    rw [e]; exact q2
   ·have e : placeF b (x :: r) = 0 := (if_neg q).trans (if_neg q2)
    rw [e] at h; cases h
theorem place_low {b : Nat} : ∀ {l : List Nat} {j : Nat}, placeF b l ≤ j → j < l.length → l.getD j 0 < b
 | [], j, _, h => absurd h (Nat.not_lt_zero _)
 | x :: r, j, h, hj => by
  by_cases q : 0 < placeF b r
  ·have e : placeF b (x :: r) = placeF b r + 1 := if_pos q
   rw [e] at h
   cases j with
   | zero => exact absurd h (Nat.not_succ_le_zero _)
   | succ j => exact place_low (l := r) (Nat.le_of_succ_le_succ h) (Nat.lt_of_succ_lt_succ hj)
  ·cases j with
   | zero =>
    by_cases q2 : b ≤ x
    ·have e : placeF b (x :: r) = 1 := (if_neg q).trans (if_pos q2)
     rw [e] at h; exact absurd h (Nat.not_succ_le_zero _)
    ·exact Nat.not_le.mp q2
   | succ j => exact place_low (l := r) (Nat.le_trans (Nat.le_of_not_lt q) (Nat.zero_le _)) (Nat.lt_of_succ_lt_succ hj)
theorem at_ok : ∀ {w : List Nat}, 2 ≤ w.length → atF w + 1 < w.length ∧ (∀ j, j < atF w → w.getD (j + 2) 0 < w.getD j 0) ∧ (atF w + 2 < w.length → w.getD (atF w) 0 ≤ w.getD (atF w + 2) 0)
 | a :: b :: [], _ => ⟨Nat.le_refl _, fun j h => absurd h (Nat.not_lt_zero _), fun h => absurd h (Nat.lt_irrefl _)⟩
 | a :: b :: c :: r, _ => by
  by_cases q : a ≤ c
  ·have e : atF (a :: b :: c :: r) = 0 := if_pos q
   rw [e]; exact ⟨Nat.succ_lt_succ (Nat.succ_pos _), fun j h => absurd h (Nat.not_lt_zero _), fun _ => q⟩
  ·have e : atF (a :: b :: c :: r) = atF (b :: c :: r) + 1 := if_neg q
   obtain ⟨i1, i2, i3⟩ := at_ok (w := b :: c :: r) (Nat.succ_le_succ (Nat.succ_le_succ (Nat.zero_le _)))
   rw [e]
   refine ⟨Nat.succ_lt_succ i1, fun j h => ?_, fun h => i3 (Nat.lt_of_succ_lt_succ h)⟩
   cases j with
   | zero => exact Nat.not_le.mp q
   | succ j => exact i2 j (Nat.lt_of_succ_lt_succ h)
noncomputable abbrev twoF (w : List Nat) : Nat := w.getD (atF w) 0 + w.getD (atF w + 1) 0
noncomputable abbrev plF (w : List Nat) : Nat := placeF (twoF w) (w.take (atF w))
theorem getD_take {w : List Nat} {k j : Nat} (h : j < k) : (w.take k).getD j 0 = w.getD j 0 := by
 rw [List.getD_eq_getElem?_getD, List.getElem?_take_of_lt h, List.getD_eq_getElem?_getD]
theorem step_of {w : List Nat} (h : 2 ≤ w.length) : IsStep w (atF w) (plF w) := by
 obtain ⟨h1, h2, h3⟩ := at_ok h
 have hl : (w.take (atF w)).length = atF w := by rw [List.length_take]; lia
 have le : plF w ≤ atF w := hl ▸ place_le
 exact ⟨le, h1, h2, h3, fun q => by have z := place_big (b := twoF w) (l := w.take (atF w)) q; rwa [getD_take (Nat.lt_of_lt_of_le (Nat.sub_lt q Nat.one_pos) le)] at z,
  fun j q r => by rw [← getD_take (w := w) (k := atF w) r]; exact place_low q (hl.symm ▸ r)⟩
noncomputable def gwF : Nat → List Nat → List Nat
 | 0, _ => [0]
 | f + 1, w => if w.length ≤ 1 then [0] else back (atF w) (plF w) (gwF f (nxt (atF w) (plF w) w))
theorem gw_best {f : Nat} : ∀ {w : List Nat}, 1 ≤ w.length → w.length ≤ f + 1 → w.length ≤ 6 → Best (gwF f w) w := by
 induction f with
 | zero =>
  intro w h1 h2 _
  have e : w.length = 1 := Nat.le_antisymm h2 h1
  unfold Best
  rw [e]
  exact ⟨.head _, fun t m => by rw [List.mem_singleton.mp m]; exact Nat.le_refl _⟩
 | succ f ih =>
  intro w h1 h2 h6
  by_cases q : w.length ≤ 1
  ·have e : w.length = 1 := Nat.le_antisymm q h1
   rw [show gwF (f + 1) w = [0] from if_pos q]
   unfold Best
   rw [e]
   exact ⟨.head _, fun t m => by rw [List.mem_singleton.mp m]; exact Nat.le_refl _⟩
  ·have s := step_of (w := w) (Nat.not_le.mp q)
   have l := nxt_len s.le s.lt
   rw [show gwF (f + 1) w = back (atF w) (plF w) (gwF f (nxt (atF w) (plF w) w)) from if_neg q]
   obtain ⟨big, k⟩ := steps h6 s.lt s.le
   exact step_ok s k (ih (by have := s.lt; lia) (by lia) (by lia))
theorem opt_fuel {f : Nat} : ∀ {g : Nat} {w : List Nat}, w.length ≤ f → w.length ≤ g → optF f w = optF g w := by
 induction f with
 | zero =>
  intro g w h _
  cases g with
  | zero => rfl
  | succ g => exact (if_pos (Nat.le_trans h (Nat.zero_le 1))).symm
 | succ f ih =>
  intro g w h1 h2
  by_cases q : w.length ≤ 1
  ·cases g with
   | zero => exact if_pos q
   | succ g => exact (if_pos q).trans (if_pos q).symm
  ·cases g with
   | zero => exact absurd (Nat.le_trans h2 (Nat.zero_le 1)) q
   | succ g =>
    refine (if_neg q).trans (Eq.trans (congrArg (fun z => w.sum + minL z) (List.map_congr_left fun k hk => ?_)) (if_neg q).symm)
    have hk := List.mem_range.mp hk
    rw [ih (g := g) (by rw [List.length_take]; lia) (by rw [List.length_take]; lia), ih (g := g) (by rw [List.length_drop]; omega) (by rw [List.length_drop]; omega)]
noncomputable def lsF (ws : List Nat) (k s : Nat) : Nat := optF s ((ws.drop k).take s)
theorem lsF_one (ws : List Nat) (k : Nat) : lsF ws k 1 = 0 := if_pos (by rw [List.length_take]; exact Nat.min_le_left _ _)
theorem lsF_all (ws : List Nat) : lsF ws 0 ws.length = optF ws.length ws := by unfold lsF; rw [List.drop_zero, List.take_length]
noncomputable def cutsF (ws : List Nat) (k s : Nat) : List Nat := (List.range (s - 1)).map fun t => lsF ws k (t + 1) + lsF ws (k + (t + 1)) (s - (t + 1))
theorem lsF_more {ws : List Nat} {k s : Nat} (h : 1 < s) (hk : k + s ≤ ws.length) : lsF ws k s = ((ws.drop k).take s).sum + minL (cutsF ws k s) := by
 have hl : ((ws.drop k).take s).length = s := by rw [List.length_take, List.length_drop]; lia
 obtain ⟨s, rfl⟩ : ∃ r, s = r + 1 := ⟨s - 1, by lia⟩
 refine (if_neg (by rw [hl]; exact Nat.not_le.mpr (by assumption))).trans (congrArg (fun z => ((ws.drop k).take (s + 1)).sum + minL z) ?_)
 rw [hl]
 unfold cutsF
 refine List.map_congr_left fun t ht => ?_
 have ht := List.mem_range.mp ht
 have e1 : ((ws.drop k).take (s + 1)).take (t + 1) = (ws.drop k).take (t + 1) := by rw [List.take_take, Nat.min_eq_left (by exact Nat.lt_succ_of_lt (by assumption))]
 have e2 : ((ws.drop k).take (s + 1)).drop (t + 1) = (ws.drop (k + (t + 1))).take (s + 1 - (t + 1)) := by rw [List.drop_take, List.drop_drop]
 rw [e1, e2]
 unfold lsF
 have a1 := opt_fuel (f := s) (g := t + 1) (w := (ws.drop k).take (t + 1)) (by rw [List.length_take]; lia) (by rw [List.length_take]; exact Nat.min_le_left _ _)
 have a2 := opt_fuel (f := s) (g := s + 1 - (t + 1)) (w := (ws.drop (k + (t + 1))).take (s + 1 - (t + 1))) (by rw [List.length_take]; lia) (by rw [List.length_take]; exact Nat.min_le_left _ _)
 rw [a1, a2]
theorem cutsF_len (ws : List Nat) (k s : Nat) : (cutsF ws k s).length = s - 1 := by unfold cutsF; rw [List.length_map, List.length_range]
noncomputable def keyI (k s : Nat) : Int := ((8 * k + s : Nat) : Int)
noncomputable def rowsE (ws : List Nat) (s : Nat) : List (Int × Int) := (List.range (7 - s)).map fun k => (keyI k s, ((lsF ws k s : Nat) : Int))
noncomputable def entE (ws : List Nat) (s k : Nat) : List (Int × Int) := ((List.range (s - 1)).flatMap fun t => rowsE ws (t + 1)) ++ (rowsE ws s).take k
theorem rowsE_len (ws : List Nat) (s : Nat) : (rowsE ws s).length = 7 - s := by unfold rowsE; rw [List.length_map, List.length_range]
theorem entE_next {ws : List Nat} {s k : Nat} (h : k < 7 - s) : entE ws s (k + 1) = entE ws s k ++ [(keyI k s, ((lsF ws k s : Nat) : Int))] := by
 have e : (rowsE ws s)[k]? = some (keyI k s, ((lsF ws k s : Nat) : Int)) := by
  unfold rowsE
  rw [List.getElem?_map, List.getElem?_range h]; rfl
 unfold entE
 rw [List.take_add_one, e, List.append_assoc]; rfl
theorem entE_row {ws : List Nat} {s : Nat} (h : 1 ≤ s) : entE ws s (7 - s) = entE ws (s + 1) 0 := by
 unfold entE
 rw [List.take_of_length_le (by rw [rowsE_len]; exact Nat.le_refl _), List.take_zero, List.append_nil, Nat.add_sub_cancel]
 obtain ⟨s, rfl⟩ : ∃ r, s = r + 1 := ⟨s - 1, by lia⟩
 rw [Nat.add_sub_cancel, List.range_succ, List.flatMap_append]
 simp
theorem mem_entE {ws : List Nat} {s k : Nat} (hs : 1 ≤ s) {p : Int × Int} : p ∈ entE ws s k ↔ ∃ k' s', p = (keyI k' s', ((lsF ws k' s' : Nat) : Int)) ∧ 1 ≤ s' ∧ k' < 7 - s' ∧ (s' < s ∨ (s' = s ∧ k' < k)) := by
 unfold entE
 rw [List.mem_append, List.mem_flatMap]
 constructor
 ·rintro (⟨t, ht, m⟩ | m)
  ·obtain ⟨k', hk, rfl⟩ := List.mem_map.mp m
   exact ⟨k', t + 1, rfl, by exact Nat.succ_pos _, List.mem_range.mp hk, .inl (by have := List.mem_range.mp ht; omega)⟩
  ·obtain ⟨i, hi⟩ := List.getElem?_of_mem m
   have hik : i < k := by
    have := (List.getElem?_eq_some_iff.mp hi).1
    rw [List.length_take] at this; lia
   rw [List.getElem?_take_of_lt hik] at hi
   unfold rowsE at hi
   rw [List.getElem?_map] at hi
   cases q : (List.range (7 - s))[i]? with
   | none => rw [q] at hi; cases hi
   | some j =>
    rw [q] at hi
    have hj := (List.getElem?_eq_some_iff.mp q).1
    rw [List.length_range] at hj
    rw [List.getElem?_range hj] at q
    obtain rfl := Option.some.inj q
    exact ⟨i, s, (Option.some.inj hi).symm, hs, hj, .inr ⟨rfl, hik⟩⟩
 ·rintro ⟨k', s', rfl, h1, h2, h3 | ⟨rfl, h3⟩⟩
  ·obtain ⟨t, rfl⟩ : ∃ t, s' = t + 1 := ⟨s' - 1, by lia⟩
   exact .inl ⟨t, List.mem_range.mpr (by omega), List.mem_map.mpr ⟨k', List.mem_range.mpr h2, rfl⟩⟩
  ·refine .inr (List.mem_of_getElem? (i := k') ?_)
   rw [List.getElem?_take_of_lt h3]
   unfold rowsE
   rw [List.getElem?_map, List.getElem?_range h2]; rfl
theorem key_inj {k k' s s' : Nat} (h1 : 1 ≤ s) (h2 : k < 7 - s) (h3 : 1 ≤ s') (h4 : k' < 7 - s') (h : keyI k s = keyI k' s') : k = k' ∧ s = s' := by
 unfold keyI at h; omega
theorem look_some {key v : Int} : ∀ {l : List (Int × Int)}, (∀ p ∈ l, p.1 = key → p.2 = v) → (∃ p ∈ l, p.1 = key) → l.lookup key = some v
 | [], _, h => by obtain ⟨p, m, _⟩ := h; cases m
 | p :: l, h, g => by
  rw [List.lookup_cons]
  by_cases q : key = p.1
  ·rw [beq_iff_eq.mpr q]; exact congrArg some (h p (.head _) q.symm)
  ·rw [beq_eq_false_iff_ne.mpr q]
   refine look_some (fun x m => h x (.tail _ m)) ?_
   obtain ⟨x, m, e⟩ := g
   rcases List.mem_cons.mp m with rfl | m
   ·exact absurd e.symm q
   ·exact ⟨x, m, e⟩
theorem look_none {key : Int} : ∀ {l : List (Int × Int)}, (∀ p ∈ l, p.1 ≠ key) → l.lookup key = none
 | [], _ => rfl
 | p :: l, h => by
  rw [List.lookup_cons, beq_eq_false_iff_ne.mpr fun z => h p (.head _) z.symm]
  exact look_none fun x m => h x (.tail _ m)
theorem entE_some {ws : List Nat} {s k k' s' : Nat} (hs : 1 ≤ s) (h1 : 1 ≤ s') (h2 : k' < 7 - s') (h3 : s' < s ∨ (s' = s ∧ k' < k)) : (entE ws s k).lookup (keyI k' s') = some ((lsF ws k' s' : Nat) : Int) := by
 refine look_some (fun p m e => ?_) ⟨_, (mem_entE hs).mpr ⟨k', s', rfl, h1, h2, h3⟩, rfl⟩
 obtain ⟨a, b, rfl, g1, g2, _⟩ := (mem_entE hs).mp m
 obtain ⟨rfl, rfl⟩ := key_inj g1 g2 h1 h2 e
 rfl
theorem entE_none {ws : List Nat} {s k : Nat} (hs : 1 ≤ s) (h : k < 7 - s) : (entE ws s k).lookup (keyI k s) = none := by
 refine look_none fun p m e => ?_
 obtain ⟨a, b, rfl, g1, g2, g3⟩ := (mem_entE hs).mp m
 obtain ⟨rfl, rfl⟩ := key_inj g1 g2 hs h e
 rcases g3 with g3 | g3
 ·exact absurd g3 (Nat.lt_irrefl _)
 ·exact absurd g3.2 (Nat.lt_irrefl _)
theorem entE_len {ws : List Nat} {s k : Nat} (hs : s ≤ 7) : (entE ws s k).length ≤ 49 := by
 have h : ∀ m, m ≤ 6 → ((List.range m).flatMap fun t => rowsE ws (t + 1)).length ≤ 7 * m := by
  intro m
  induction m with
  | zero => intro _; exact Nat.le_refl _
  | succ m ih =>
   intro hm
   rw [List.range_succ, List.flatMap_append, List.length_append]
   have := ih (by exact Nat.le_of_lt (by assumption))
   have e : ([m].flatMap fun t => rowsE ws (t + 1)).length = 7 - (m + 1) := by simp [rowsE_len]
   rw [e]; lia
 unfold entE
 rw [List.length_append, List.length_take, rowsE_len]
 have := h (s - 1) (by omega)
 omega
section
noncomputable abbrev nI (n : Nat) : V := .int ((n : Nat) : Int)
noncomputable abbrev natsI (l : List Nat) : List Int := l.map fun (n : Nat) => (n : Int)
theorem natsV (l : List Nat) : (natsI l).map V.int = l.map nI := by unfold natsI; rw [List.map_map]; rfl
theorem nats_sum : ∀ l : List Nat, (natsI l).sum = ((l.sum : Nat) : Int)
 | [] => rfl
 | a :: l => by
  show (a : Int) + (natsI l).sum = _
  rw [nats_sum l, List.sum_cons]; rfl
theorem sum_le {l : List Nat} (h : ∀ x ∈ l, x ≤ 1000) : l.sum ≤ 1000 * l.length := by
 induction l with
 | nil => exact Nat.le_refl _
 | cons a l ih =>
  have h1 := h a (.head _)
  have h2 := ih fun x m => h x (.tail _ m)
  rw [List.sum_cons, List.length_cons]; lia
section
variable {C : Ct} {n : Nat} {H : List HObj} {u : V} {l : List Nat}
theorem Fn.sumN (h : Lsy H u (l.map nI)) (hl : ∀ x ∈ l, x ≤ 1000) (hn : l.length ≤ 1000) : Fn C n (.val (.builtin "sum")) [u] [] H H (nI l.sum) := by
 have q := Fn.sum (C := C) (n := n) (ns := natsI l) (u := u) (H := H) (natsV l ▸ h) (fun k => ?_) (fun x m => ?_)
 ·rw [nats_sum] at q; exact q
 ·have e : (natsI l).take k = natsI (l.take k) := List.map_take.symm
  rw [e, nats_sum]
  have h1 := sum_le (l := l.take k) fun x m => hl x (List.mem_of_mem_take m)
  have h2 : (l.take k).length ≤ l.length := by rw [List.length_take]; exact Nat.min_le_right _ _
  omega
 ·obtain ⟨a, m', rfl⟩ := List.mem_map.mp m
  have := hl a m'
  omega
theorem Fn.minN (h : Lsy H u (l.map nI)) (hn : l ≠ []) : Fn C n (.val (.builtin "min")) [u] [] H H (nI (Mine.minL l)) := by
 obtain ⟨h1, h2⟩ := minL_both hn
 refine Fn.minL (ns := natsI l) (natsV l ▸ h) (List.mem_map.mpr ⟨_, h1, rfl⟩) fun x m => ?_
 obtain ⟨a, m', rfl⟩ := List.mem_map.mp m
 exact Int.ofNat_le.mpr (h2 a m')
end
theorem rngL_nat (a s : Nat) : rngL (a : Int) ((s : Nat) : Int) = (List.range (s - a)).map fun t => nI (a + t) := by
 unfold rngL
 rw [show (((s : Nat) : Int) - (a : Int)).toNat = s - a from by lia]
 rfl
theorem rng_nat {a s i : Nat} {v : V} (h : (rngL (a : Int) ((s : Nat) : Int))[i]? = some v) : i < s - a ∧ v = nI (a + i) := by
 obtain ⟨h1, h2⟩ := rng_at h
 exact ⟨by lia, h2⟩
theorem cuts_ne {ws : List Nat} {k s : Nat} (h : s ≠ 1) (h1 : 1 ≤ s) : (!((cutsF ws k s).map nI).isEmpty) = true ∧ cutsF ws k s ≠ [] := by
 have hl := cutsF_len ws k s
 have : cutsF ws k s ≠ [] := fun z => by rw [z] at hl; simp at hl; lia
 refine ⟨?_, this⟩
 cases e : cutsF ws k s with
 | nil => exact absurd e this
 | cons a l => rfl
theorem cuts_e {ws : List Nat} {k : Nat} : (!((cutsF ws k 1).map nI).isEmpty) = false := by unfold cutsF; rfl
theorem Co.eqr {C : Ct} {n : Nat} {env : Env} {t elt : PySem.Expr} {ifs : List PySem.Expr} {σ : Loc} {H : List HObj} {l rs rs' : List V} (h : Co C n env t ifs elt σ H l rs) (e : rs = rs') : Co C n env t ifs elt σ H l rs' := e ▸ h
theorem cuts_map (ws : List Nat) (k i : Nat) : ((List.range (1 + i - 1)).map fun t => nI (lsF ws k (t + 1) + lsF ws (k + (t + 1)) (1 + i - (t + 1)))) = (cutsF ws k (1 + i)).map nI := by
 unfold cutsF; rw [List.map_map]; rfl
theorem exEq {C : Ct} {n : Nat} {env : Env} {σ σ1 : Loc} {H H1 H2 : List HObj} {body : List PySem.Stmt} (e : H1 = H2) (h : Ex C n env σ H body (.next σ1 H1)) : Ex C n env σ H body (.next σ1 H2) := e ▸ h
theorem at_last {H : List HObj} {o : HObj} : (H ++ [o])[H.length]? = some o := by rw [List.getElem?_append_right (Nat.le_refl _), Nat.sub_self]; rfl
theorem set_last {H : List HObj} {o o' : HObj} : (H ++ [o]).set H.length o' = H ++ [o'] := by rw [List.set_append_right _ _ (Nat.le_refl _), Nat.sub_self]; rfl
theorem least_core (c : C1) (H : List HObj) {u : V} {ws : List Nat} (hl : Lsy H u (ws.map nI)) (h6 : ws.length = 6) (hw : ∀ x ∈ ws, x ≤ 1000) : Fn c.ct 3 (.val (.ref 283)) [u] [] H (H ++ [(HObj.sem (dictA c.ct (entE ws 7 0)))]) (nI (lsF ws 0 6)) := by
 refine' fnOf (ns := ["weights"]) (vs := [u]) (o := .ret (nI (lsF ws 0 6)) (H ++ [(HObj.sem (dictA c.ct (entE ws 7 0)))])) ?ho ?hb ?hst ?hcd ?hns ?hnd ?hbind ?hbody ?hfin
 walk_at "t_of"
 case hbind => exact bind1 fun q_ => Looks.of_pure rfl
 case hbody =>
  intro env hS; dsimp only at hS
  exact (Ex.cons (Es.assign Ev.dict0 (.inr (kind_of hS rfl)) rfl)
 (Ex.cons (Es.for (SrcE.of (Ev.call (gB (g_range _) (kind_of hS rfl)) (EvA.args (EvL.cons Ev.int (EvL.cons (Ev.bin (Ev.call (gB (g_len _) (kind_of hS rfl)) (EvA.args (EvL.cons (Ev.loc rfl) EvL.nil)) (Fn.len (hl.app) (by rw [List.length_map, h6]; decide)) Kp.blt) Ev.int (Bin.addE (r := ((7 : Nat) : Int)) (by rw [List.length_map, h6]; rfl))) EvL.nil))) Fn.range2 Kp.typ) (Src.rng (a := ((1 : Nat) : Int)) (b := ((7 : Nat) : Int)) (by decide) (by decide) (by decide) (by decide))) rfl (Fo.runsN 6 (by rw [rngL_nat]; rfl) (fun _ => [("weights", u), ("least", .ref H.length)]) (fun i => H ++ [(HObj.sem (dictA c.ct (entE ws (1 + i) 0)))]) (subs_cons rfl (subs_cons rfl subs_nil)) rfl (fun q_ q_ => trivial) (fun i v hv => by
  obtain ⟨hi, rfl⟩ := rng_nat hv
  have hi : i < 6 := hi
  exact Turn.mk (Ast.name (.inr ⟨(.inr (kind_of hS rfl)), rfl⟩)) (exEq (by rw [entE_row (Nat.le_add_right 1 i), Nat.add_assoc]) (Ex.one (Es.for (SrcE.of (Ev.call (gB (g_range _) (kind_of hS rfl)) (EvA.args (EvL.cons (Ev.bin (Ev.bin (Ev.call (gB (g_len _) (kind_of hS rfl)) (EvA.args (EvL.cons (Ev.loc rfl) EvL.nil)) (Fn.len (hl.app) (by rw [List.length_map, h6]; decide)) Kp.blt) Ev.int (Bin.addE (r := ((7 : Nat) : Int)) (by rw [List.length_map, h6]; rfl))) (Ev.loc rfl) (Bin.subE (r := ((7 - (1 + i) : Nat) : Int)) (by lia))) EvL.nil)) Fn.range1 Kp.typ) (Src.rng (a := ((0 : Nat) : Int)) (b := ((7 - (1 + i) : Nat) : Int)) (by decide) (by decide) (by exact Int.ofNat_nonneg _) (by omega))) rfl (Fo.runsN (7 - (1 + i)) (by rw [rngL_nat, List.length_map, List.length_range]; rfl) (fun _ => [("size", nI (1 + i)), ("weights", u), ("least", .ref H.length)]) (fun k => H ++ [(HObj.sem (dictA c.ct (entE ws (1 + i) k)))]) (subs_cons rfl (subs_cons rfl (subs_cons rfl subs_nil))) rfl (fun q_ q_ => trivial) (fun k v hv => by
  obtain ⟨hk, rfl⟩ := rng_nat hv
  rw [Nat.zero_add]
  have hk : k < 7 - (1 + i) := hk
  have hd : (H ++ [(HObj.sem (dictA c.ct (entE ws (1 + i) k)))])[H.length]? = some (HObj.sem (dictA c.ct (entE ws (1 + i) k))) := at_last
  exact Turn.mk (Ast.name (.inr ⟨(.inr (kind_of hS rfl)), rfl⟩)) (exEq (by rw [set_last, entE_next hk]) (Ex.cons (Es.compS hS (SrcE.of (Ev.call (gB (g_range _) (kind_of hS rfl)) (EvA.args (EvL.cons Ev.int (EvL.cons (Ev.loc rfl) EvL.nil))) Fn.range2 Kp.typ) (Src.rng (a := ((1 : Nat) : Int)) (b := ((1 + i : Nat) : Int)) (by decide) (by decide) (by exact Int.ofNat_nonneg _) (by omega))) rfl (fun q_ => trivial) (by kernel_rfl) (fun cenv hC1 => (by rw [rngL_nat]; exact Co.eqr (Co.map (f := fun t => nI (1 + t)) (g := fun t => nI (lsF ws k (t + 1) + lsF ws (k + (t + 1)) (1 + i - (t + 1)))) (fun t ht => by have ht := List.mem_range.mp ht; exact ⟨_, (fun K => (Ast.name (.inl ⟨kind_of hC1 rfl, rfl⟩))), (fun K => (Ev.bin (Ev.sub (Ev.loc rfl) (Ev.bin (Ev.bin Ev.int (Ev.loc rfl) (Bin.mul (mulOk (by decide)))) (Ev.loc rfl) (Bin.addE (r := keyI k (1 + t)) (by unfold keyI; rfl))) (Itm.dictI (getElem?_append_some hd) (entE_some (Nat.le_add_right 1 i) (Nat.le_add_right 1 t) (by lia) (.inl (by lia))) (fun q_ q_ => rfl))) (Ev.sub (Ev.loc rfl) (Ev.bin (Ev.bin (Ev.bin Ev.int (Ev.bin (Ev.loc rfl) (Ev.loc rfl) (Bin.addE (r := ((k + (1 + t) : Nat) : Int)) (by rfl))) (Bin.mul (mulOk (by decide)))) (Ev.loc rfl) Bin.addInt) (Ev.loc rfl) (Bin.subE (r := keyI (k + (1 + t)) (1 + i - (1 + t))) (by unfold keyI; lia))) (Itm.dictI (getElem?_append_some hd) (entE_some (Nat.le_add_right 1 i) (by lia) (by lia) (.inl (by omega))) (fun q_ q_ => rfl))) (Bin.addE (r := ((lsF ws k (t + 1) + lsF ws (k + (t + 1)) (1 + i - (t + 1)) : Nat) : Int)) (by rw [Nat.add_comm 1 t]; rfl)))), rfl, (sub_cons rfl)⟩)) (cuts_map ws k i))) (by rw [rngL_nat, List.length_map, List.length_range, sizeLine_eq]; lia) (fun q_ q_ => rfl) (Nat.le_refl _) (il hS rfl) (by intro e he; cases e; dsimp only at he; subst he; rfl))
 (Ex.one (Es.dictI (a := ((lsF ws k (1 + i) : Nat) : Int)) (k := keyI k (1 + i)) (by
   by_cases q : 1 + i = 1
   ·have q0 : i = 0 := by lia
    subst q0
    exact Ev.eqv (Ev.ifFb (Tst.val (Ev.loc rfl) (Tru.lst Lsy.lst (by rw [List.length_map, cutsF_len]; exact Nat.succ_pos _)) rfl) cuts_e Ev.int) (by rw [lsF_one]; rfl)
   ·exact Ev.ifTb (Tst.val (Ev.loc rfl) (Tru.lst Lsy.lst (by rw [List.length_map, cutsF_len]; lia)) rfl) (cuts_ne q (by exact Nat.le_add_right _ _)).1 (Ev.bin (Ev.call (gB (g_sum _) (kind_of hS rfl)) (EvA.args (EvL.cons (Ev.eqv (Ev.sliceL (Ev.loc rfl) (EvP.some (Ev.loc rfl)) (EvP.some (Ev.bin (Ev.loc rfl) (Ev.loc rfl) (Bin.addE (r := ((k + (1 + i) : Nat) : Int)) (by rfl)))) EvP.none (hl.app) (by decide) (by rw [List.length_map, h6]; decide) (fun q_ q_ => ⟨_, rfl⟩)) (by rw [pick_mid, ← List.map_drop, ← List.map_take, show k + (1 + i) - k = 1 + i from by lia])) EvL.nil)) (Fn.sumN (l := (ws.drop k).take (1 + i)) Lsy.lst (fun x m => hw x (List.mem_of_mem_drop (List.mem_of_mem_take m))) (by rw [List.length_take]; lia)) Kp.blt) (Ev.call (gB (g_min _) (kind_of hS rfl)) (EvA.args (EvL.cons (Ev.loc rfl) EvL.nil)) (Fn.minN Lsy.lst (cuts_ne q (by exact Nat.le_add_right _ _)).2) Kp.blt) (Bin.addE (r := ((lsF ws k (1 + i) : Nat) : Int)) (by rw [lsF_more (by lia) (by lia)]; rfl)))) (Ev.loc rfl) (Ev.bin (Ev.bin Ev.int (Ev.loc rfl) (Bin.mul (mulOk (by decide)))) (Ev.loc rfl) (Bin.addE (r := keyI k (1 + i)) (by unfold keyI; rfl))) hd (entE_none (Nat.le_add_right 1 i) hk) (Nat.le_trans (entE_len (by lia)) (by decide)) rfl)))) (subs_cons rfl (subs_cons rfl (subs_cons rfl subs_nil))))) (fun q_ q_ => rfl)))) (subs_cons rfl (subs_cons rfl subs_nil)))) (fun q_ q_ => rfl))
 (Ex.stop (Es.ret (Ev.sub (Ev.loc rfl) (Ev.eqv (Ev.call (gB (g_len _) (kind_of hS rfl)) (EvA.args (EvL.cons (Ev.loc rfl) EvL.nil)) (Fn.len (hl.app) (by rw [List.length_map, h6]; decide)) Kp.blt) (v1 := .int (keyI 0 6)) (by rw [List.length_map, h6]; rfl)) (Itm.dictI at_last (entE_some (by decide) (by decide) (by decide) (.inl (by decide))) (fun q_ q_ => rfl)))) (by intro _ _ h; cases h))))
 case hfin => first | exact Fin.ret | exact Fin.next
theorem fn_least (c : C1) (H : List HObj) {u : V} {ws : List Nat} (hl : Lsy H u (ws.map nI)) (h6 : ws.length = 6) (hw : ∀ x ∈ ws, x ≤ 1000) : Fn c.ct 3 (.val (.ref 283)) [u] [] H H (nI (optF 6 ws)) := by
 have h := least_core c H hl h6 hw
 have e := lsF_all ws
 rw [h6] at e
 rw [e] at h
 exact Fn.shed h (Nat.le_refl _) (.dat rfl) id
end
section
noncomputable def pairA : OAsrt where
 P _ o := ∃ a b : Value, o = { cls := .type "tuple", data := .seq #[a, b] }
 mono _ _ h := h
 hard h hd := by
  obtain ⟨a, b, rfl⟩ := h
  cases hd
 top := 0
 low _ h := h
 loose h := h
noncomputable def zipV (l l' : List V) : List V := (l.zip l').map fun p => .tup [p.1, p.2]
section
variable {C : Ct} {n : Nat} {env : Env} {σ σ' σ1 : Loc} {H H' H0 H1 H2 H3 : List HObj} {pos p pos' tpos : Pos} {k : Nat} {x : Str} {u u' v v1 v2 : V} {e e1 e2 : PySem.Expr} {l l' : List V} {a : Int}
theorem Fn.intS (h0 : 0 ≤ a) (h1 : a < 10 ^ 10) : Fn C n (.val (.type "int")) [.str (Str.ofString (toString a))] [] H H (.int a) := by
 intro A w Q E g xs ks R B rg rx rk K
 obtain ⟨_, rfl⟩ := rg.inv
 obtain ⟨z, rfl, r1⟩ := rx.inv1
 obtain rfl := rk.inv0
 obtain ⟨t, rfl⟩ := r1.inv
 exact KIN.call_num h0 h1 (K ⟨w.ρ, w.π, _⟩ _ Ext.toks.step (B.ext Ext.toks) (.int _ _))
theorem zipV_at {i : Nat} (h : (zipV l l')[i]? = some v) : ∃ y z, l[i]? = some y ∧ l'[i]? = some z ∧ v = .tup [y, z] := by
 unfold zipV at h
 rw [List.getElem?_map] at h
 cases q : (l.zip l')[i]? with
 | none => rw [q] at h; cases h
 | some r =>
  rw [q] at h
  obtain ⟨h1, h2⟩ := List.getElem?_zip_eq_some.mp q
  exact ⟨_, _, h1, h2, (Option.some.inj h).symm⟩
theorem zipV_len : (zipV l l').length = min l.length l'.length := by unfold zipV; rw [List.length_map, List.length_zip]
theorem BSt.turnP {X : List Addr} {w w' : Wd} {b : Addr} {j : Nat} (B : BSt C w H) (hX : NonSeq w X) (S : Step X w w') (hr : w'.ρ = w.ρ) (ho : ∀ a ∈ X, C.h₀.get? a = none) (ht : ∀ a ∈ w.ρ, a ≠ b → ∀ o, w.h.get? a = some o → w'.h.get? a = some o)
  (hj : H[j]? = some (.sem pairA)) (hb : w.ρ[j]? = some b) (hp : ∃ y z : Value, w'.h.get? b = some { cls := .type "tuple", data := .seq #[y, z] }) : BSt C w' H := by
 refine ⟨fun a o e => S.keep a o (B.stays a o e) (fun m => by rw [(B.out a m).1] at e; cases e) (fun m => nomatch (ho a m).symm.trans e), fun a m => B.out a (hr ▸ m), hr ▸ B.nodup, hr ▸ B.len, fun i a o e1 e2 => ?_, fun a m => ?_, fun h => Nat.lt_of_lt_of_le (B.tok h) S.tk, B.tops⟩
 ·rw [hr] at e1
  by_cases q : a = b
  ·subst q
   have hl := (List.getElem?_eq_some_iff.mp e1).1
   have hij : i = j := (List.getElem?_inj hl B.nodup).mp (e1.trans hb.symm)
   subst hij
   obtain rfl := Option.some.inj (hj.symm.trans e2)
   obtain ⟨y, z, h⟩ := hp
   exact .sem h ⟨y, z, rfl⟩
  ·exact (B.obj i a o e1 e2).move hX S (ht a (List.mem_of_getElem? e1) q)
 ·rw [S.pin] at m
  obtain ⟨h1, o, e⟩ := B.pins a m
  exact ⟨hr ▸ h1, o, S.keep a o e h1 fun z => (hX a z).1 m⟩
structure ZipP (u u' : V) (z TI TO i1 i2 q1 q2 : Addr) (j i : Nat) (f0 : Value) (w : Wd) : Prop where
 r1 : VRel w u (.ref q1)
 r2 : VRel w u' (.ref q2)
 out : w.ρ[j]? = some TO
 hz : IsZip w.h z TI TO f0
 hTI : IsPair w.h TI (.ref i1) (.ref i2)
 nTI : TI ∉ w.ρ
 h1 : w.h.IsListIter i1 q1 i
 h2 : w.h.IsListIter i2 q2 i
theorem ZipP.fld {z TI TO i1 i2 q1 q2 : Addr} {j i : Nat} {f0 : Value} {w : Wd} (p : ZipP u u' z TI TO i1 i2 q1 q2 j i f0 w) : ∀ a ∈ [z, i1, i2], ∃ o vs T, w.h.get? a = some o ∧ o.data = .fields vs ∧ o.cls = .type T ∧ T ∈ iterCls := by
 intro a m
 obtain ⟨o1, a1, b1, c1⟩ := p.h1
 obtain ⟨o2, a2, b2, c2⟩ := p.h2
 rcases List.mem_cons.mp m with rfl | m
 ·exact ⟨_, _, _, p.hz, rfl, rfl, by decide⟩
 ·rcases List.mem_cons.mp m with rfl | m
  ·exact ⟨_, _, _, a1, c1, b1, by decide⟩
  ·rw [List.mem_singleton.mp m]; exact ⟨_, _, _, a2, c2, b2, by decide⟩
theorem ZipP.apart {z TI TO i1 i2 q1 q2 : Addr} {j i : Nat} {f0 : Value} {w : Wd} (p : ZipP u u' z TI TO i1 i2 q1 q2 j i f0 w) (B : BSt C w H) (h1 : Lsy H u l) (h2 : Lsy H u' l') (hj : H[j]? = some (.sem pairA)) (hzi : z ≠ i1 ∧ z ≠ i2 ∧ i1 ≠ i2) : ZipApart z TI TO i1 i2 q1 q2 ∧ ∃ a b, IsPair w.h TO a b := by
 obtain ⟨vs, m, e1, _⟩ := p.r1.at B h1
 obtain ⟨vs', m', e2, _⟩ := p.r2.at B h2
 obtain ⟨b, o, hb, ho, y, y', rfl⟩ := B.sem hj
 obtain rfl := Option.some.inj (p.out.symm.trans hb)
 obtain ⟨o1, a1, b1, c1⟩ := p.h1
 obtain ⟨o2, a2, b2, c2⟩ := p.h2
 have ne : ∀ {a b : Addr} {o o' : Obj}, w.h.get? a = some o → w.h.get? b = some o' → o.data ≠ o'.data → a ≠ b := fun e e' h z => h (by subst z; rw [Option.some.inj (e.symm.trans e')])
 have nc : ∀ {a b : Addr} {o o' : Obj}, w.h.get? a = some o → w.h.get? b = some o' → o.cls ≠ o'.cls → a ≠ b := fun e e' h z => h (by subst z; rw [Option.some.inj (e.symm.trans e')])
 have hTO : TO ∈ w.ρ := List.mem_of_getElem? p.out
 have d1 : ∀ {vs : List Value} {n : Nat}, (lstObj vs n).data ≠ o1.data := fun h => by rw [c1] at h; cases h
 have d2 : ∀ {vs : List Value} {n : Nat}, (lstObj vs n).data ≠ o2.data := fun h => by rw [c2] at h; cases h
 exact ⟨⟨ne p.hTI p.hz (fun h => by cases h), ne ho p.hz (fun h => by cases h), hzi.1.symm, hzi.2.1.symm, fun h => p.nTI (h ▸ hTO), ne p.hTI a1 (fun h => by rw [c1] at h; cases h), ne p.hTI a2 (fun h => by rw [c2] at h; cases h), ne ho a1 (fun h => by rw [c1] at h; cases h), ne ho a2 (fun h => by rw [c2] at h; cases h), hzi.2.2,
  ne e1 p.hz (fun h => by cases h), nc e1 ho (fun h => absurd (Value.type.inj h) (by decide)), ne e1 a1 d1, ne e1 a2 d2, ne e2 p.hz (fun h => by cases h), nc e2 ho (fun h => absurd (Value.type.inj h) (by decide)), ne e2 a1 d1, ne e2 a2 d2⟩, y, y', ho⟩
theorem zip_step {w : Wd} {h' : Heap} {TO z i1 i2 : Addr} (hm : TO ∈ w.ρ) (hk : ∀ c o, c ≠ z → c ≠ TO → c ≠ i1 → c ≠ i2 → w.s.heap.get? c = some o → h'.get? c = some o) (hl : ∃ o, h'.get? TO = some o) : Step [z, i1, i2] w ⟨w.ρ, w.π, { w.s with heap := h' }⟩ :=
 ⟨⟨[], by simp, by simp⟩, fun c o e n m => hk c o (fun q => m (q ▸ .head _)) (fun q => n (q ▸ hm)) (fun q => m (q ▸ .tail _ (.head _))) (fun q => m (q ▸ .tail _ (.tail _ (.head _)))) e,
  fun c o e m => by
   by_cases q : c = TO
   ·rw [q]; exact hl
   ·exact ⟨o, hk c o (fun q => m (q ▸ .head _)) q (fun q => m (q ▸ .tail _ (.head _))) (fun q => m (q ▸ .tail _ (.tail _ (.head _)))) e⟩, rfl, rfl, rfl, Nat.le_refl _⟩
theorem zip_over {A : Around} {E : Value → Shared → Prop} {s : Shared} {z TI TO i1 i2 q : Addr} {i : Nat} {xs : Array Value} {Q : Option Value → Shared → Prop} (hh : A.handled = none) (n1 : i1 ≠ z) (n2 : q ≠ z) (hz : IsZip s.heap z TI TO .none) (hTI : IsPair s.heap TI (.ref i1) (.ref i2))
  (hi : s.heap.IsListIter i1 q i) (hl : s.heap.IsList q xs) (hx : xs[i]? = none) (K : ∀ h', (∀ c o, c ≠ z → c ≠ i1 → s.heap.get? c = some o → h'.get? c = some o) → Q none { s with heap := h' }) : wpAny C.M A (pyNext (.ref z)) Q E s := by
 have hT : s.TypeIs (.ref z) "zip" := ⟨_, hz, rfl⟩
 unfold pyNext
 refine wpAny_bind (wpAny_attempt (wpAny_callSpecial?_slot (name := Str.ofString "__next__") hT PySem.F.slot_zip_next (wpAny_call_entry PySem.F.slot_zip_next hT PySem.F.entry_zip_next ?_ (PySem.F.args_zip_next_1 _))))
 show wpAny _ _ (field (.ref z) 2 >>= _) _ _ _
 refine wpAny_bind (wpAny_field hz rfl (x := .bool false) rfl ?_)
 show wpAny _ _ (field (.ref z) 3 >>= _) _ _ _
 refine wpAny_bind (wpAny_field hz rfl (x := .ref TI) rfl (wpAny_bind (wpAny_seqItems hTI rfl ?_)))
 show wpAny _ _ (Builtin.SmallTypes.ownedTupleIsFree (.ref z) >>= _) _ _ _
 refine wpAny_bind ?_
 unfold Builtin.SmallTypes.ownedTupleIsFree
 refine wpAny_bind (wpAny_field hz rfl (x := .none) rfl (wpAny_pure ?_))
 simp only [if_true]
 refine wpAny_bind (wpAny_rule (wpAny_bind (wpAny_field hz rfl (x := .ref TO) rfl (wpAny_bind (wpAny_setField_rec hz (by simp) fun g1 z1 s1 => ?_)))))
 refine wpAny_bind ?_
 simp only [List.zipIdx_cons, List.zipIdx_nil, List.forIn_cons, List.forIn_nil]
 refine wpAny_bind (wpAny_bind (wpAny_onRaise ?_))
 show wpAny _ _ (Builtin.SmallTypes.nextOf (.ref i1) >>= _) _ _ _
 refine (wpAny_bind (wpAny_nextOf_list_end hh (hi.extBut s1.extBut n1) (hl.extBut s1.extBut n2) hx fun g2 e s2 he => ?_))
 obtain ⟨oe, h1, h2⟩ := he
 have z2 : g2.get? z = some _ := s2 _ _ n1.symm z1
 have ne : e ≠ z := fun q => by
  rw [q, z2] at h1
  obtain rfl := Option.some.inj h1
  simp at h2
 refine wpAny_setField_rec z2 (by simp) fun g3 _ s3 => ?_
 refine wpAny_bind (wpAny_isInstance (T := "StopIteration") (b := true) ⟨oe, s3.extBut _ _ ne h1, h2⟩ isSubtype_stop (wpAny_pure ?_))
 exact K g3 fun c o a b g => s3.extBut _ _ a (s2 _ _ b (s1.extBut _ _ a g))
theorem FnI.zip (hll : l.length = l'.length) (h1 : Lsy H u l) (h2 : Lsy H u' l') : FnI C n (.val (.type "zip")) [u, u'] H (H ++ [.sem pairA]) (fun H' => Lsy H' u l ∧ Lsy H' u' l' ∧ H'[H.length]? = some (.sem pairA)) isTupT (zipV l l') := by
 intro A w Q E g xs R B rg rx K
 obtain ⟨_, rfl⟩ := rg.inv
 obtain ⟨x1, x2, rfl, r1, r2⟩ := rx.inv2
 obtain ⟨q1, vs1, m1, rfl, e1, _⟩ := h1.isL B r1
 obtain ⟨q2, vs2, m2, rfl, e2, _⟩ := h2.isL B r2
 refine call_zip_2 (isList_ofL e1) (isList_ofL e2) fun h' hz hTI hTO i1 i2 _ hk => wpAny_pyIter_zip hz ?_
 have nw : ∀ a, w.s.heap.objs.size ≤ a → w.h.get? a = none := fun a ha => by
  cases z : w.h.get? a with
  | none => rfl
  | some o => exact absurd (Heap.lt_size z) (Nat.not_lt.mpr ha)
 have h3 := B.size3
 obtain ⟨B1, S1⟩ := B.track (s' := { w.s with heap := h' }) (a := w.s.heap.objs.size + 3) (o := .sem pairA) hk rfl rfl (Nat.le_refl _) (nw _ (Nat.le_add_right _ _)) (Nat.lt_of_lt_of_le h3 (Nat.le_add_right _ _)) (fun q_ => .sem hTO ⟨_, _, rfl⟩) (fun P e => by cases e; exact Nat.zero_le _)
 generalize hI : w.s.heap.objs.size = I at hz hTI hTO i1 i2 h3 B1 S1 nw ⊢
 have hout : (w.ρ ++ [I + 3])[H.length]? = some (I + 3) := by rw [← B.len]; simp
 have nTI : I + 2 ∉ w.ρ ++ [I + 3] := fun m => by
  rcases List.mem_append.mp m with m | m
  ·exact B.fresh (nw _ (Nat.le_add_right _ _)) m
  ·have := List.mem_singleton.mp m; lia
 have hzi : I + 4 ≠ I ∧ I + 4 ≠ I + 1 ∧ I ≠ I + 1 := ⟨by lia, by lia, by lia⟩
 refine K ⟨w.ρ ++ [I + 3], w.π, { w.s with heap := h' }⟩ (.ref (I + 4)) [I + 4, I, I + 1] (fun i w' => ZipP u u' (I + 4) (I + 2) (I + 3) I (I + 1) q1 q2 H.length i .none w')
  (fun i y w' => ∃ T, y = .ref T ∧ ZipP u u' (I + 4) (I + 2) (I + 3) I (I + 1) q1 q2 H.length i (rawInt T) w') S1 B1 (fun a m => ?_) ?_ ⟨r1.step0 S1, r2.step0 S1, hout, hz, hTI, nTI, i1, i2⟩
 ·rcases List.mem_cons.mp m with rfl | m
  ·exact nw _ (Nat.le_add_right _ _)
  ·rcases List.mem_cons.mp m with rfl | m
   ·exact nw _ (Nat.le_refl _)
   ·rw [List.mem_singleton.mp m]; exact nw _ (Nat.le_add_right _ _)
 ·clear hk B1 S1 nw hz hTI hTO i1 i2 e1 e2 r1 r2 rx hout nTI hI
  refine ⟨fun A w1 Q E R p K => wpAny_pyIter_zip p.hz K, fun i w' p => p.fld, fun i y w' p => let ⟨_, _, p⟩ := p; p.fld, fun i w1 w2 Y p S hY hXY hρ => ?_, ?_, ?_, ?_⟩
  ·obtain ⟨o1, a1, b1, c1⟩ := p.h1
   obtain ⟨o2, a2, b2, c2⟩ := p.h2
   exact ⟨p.r1.step hY S, p.r2.step hY S, S.at p.out, S.keep _ _ p.hz (hρ _ (.head _)) (hXY _ (.head _)), S.keep _ _ p.hTI p.nTI (hY.not p.hTI ⟨_, _, rfl⟩), S.notin p.hTI p.nTI,
    ⟨o1, S.keep _ _ a1 (hρ _ (.tail _ (.head _))) (hXY _ (.tail _ (.head _))), b1, c1⟩, ⟨o2, S.keep _ _ a2 (hρ _ (.tail _ (.tail _ (.head _)))) (hXY _ (.tail _ (.tail _ (.head _)))), b2, c2⟩⟩
  ·rintro i v A w1 H1 Q E hi R B1 ok p hX hn K
   obtain ⟨y, z, hy, hz, rfl⟩ := zipV_at hi
   obtain ⟨D, a, b, hTO⟩ := p.apart B1 ok.1 ok.2.1 ok.2.2 hzi
   obtain ⟨vs1, m1, e1, rv1⟩ := p.r1.at B1 ok.1
   obtain ⟨vs2, m2, e2, rv2⟩ := p.r2.at B1 ok.2.1
   obtain ⟨x1, g1, t1⟩ := rv1.get hy
   obtain ⟨x2, g2, t2⟩ := rv2.get hz
   refine wpAny_pyNext_zip_item D p.hz p.hTI hTO p.h1 p.h2 (isList_of e1) (isList_of e2) (by simpa using g1) (by simpa using g2) fun h' z1 z2 z3 z4 z5 _ hk => ?_
   have hm := List.mem_of_getElem? p.out
   have S := zip_step hm hk ⟨_, z2⟩
   have B2 : BSt C ⟨w1.ρ, w1.π, { w1.s with heap := h'}⟩ H1 := B1.turnP hX S rfl hn (fun c m q o e => hk c o (fun z => B1.apart p.fld _ (.head _) (z ▸ m)) q (fun z => B1.apart p.fld _ (.tail _ (.head _)) (z ▸ m)) (fun z => B1.apart p.fld _ (.tail _ (.tail _ (.head _))) (z ▸ m)) e) ok.2.2 p.out ⟨_, _, z2⟩
   refine K ⟨w1.ρ, w1.π, { w1.s with heap := h'}⟩ _ S rfl B2 ⟨_, rfl, p.r1.step hX S, p.r2.step hX S, p.out, z1, S.keep _ _ p.hTI p.nTI (hX.not p.hTI ⟨_, _, rfl⟩), p.nTI, z3, z4⟩ ?_
   exact .tup (vs := [x1, x2]) (n := 0) z5 (B1.fresh (size_none _)) (.cons (t1.step hX S) (.cons (t2.step hX S) .nil))
  ·rintro A w1 H1 Q E R B1 ok p hX hn K
   obtain ⟨D, a, b, hTO⟩ := p.apart B1 ok.1 ok.2.1 ok.2.2 hzi
   obtain ⟨vs1, m1, e1, rv1⟩ := p.r1.at B1 ok.1
   obtain ⟨vs2, m2, e2, rv2⟩ := p.r2.at B1 ok.2.1
   refine zip_over R.hd hzi.1.symm D.l1z p.hz p.hTI p.h1 (isList_of e1) ?_ fun h' hk => ?_
   ·rw [zipV_len, ← hll, Nat.min_self, ← rv1.length]; simp
   ·have S : Step [I + 4, I, I + 1] w1 ⟨w1.ρ, w1.π, { w1.s with heap := h' }⟩ := ⟨⟨[], by simp, by simp⟩, fun c o e _ m => hk c o (fun q => m (q ▸ .head _)) (fun q => m (q ▸ .tail _ (.head _))) e, fun c o e m => ⟨o, hk c o (fun q => m (q ▸ .head _)) (fun q => m (q ▸ .tail _ (.head _))) e⟩, rfl, rfl, rfl, Nat.le_refl _⟩
    exact K ⟨w1.ρ, w1.π, { w1.s with heap := h' }⟩ S rfl (B1.turn hX S rfl (fun a o e m => nomatch (hn a m).symm.trans e) fun c m o e => hk c o (fun q => B1.apart p.fld _ (.head _) (q ▸ m)) (fun q => B1.apart p.fld _ (.tail _ (.head _)) (q ▸ m)) e)
  ·rintro i A w1 H1 target v y Q E hT hi ⟨T, rfl, p⟩ hX B1 rv hn K
   obtain ⟨_, _, _, rfl⟩ := isTup_inv hT
   refine wpAny_letOwnedTupleGo_zip p.hz fun h' hz' hs => ?_
   have hk : ∀ c o, c ≠ I + 4 → w1.s.heap.get? c = some o → h'.get? c = some o := fun c o q e => (hs.2 c q).trans e
   have S : Step [I + 4, I, I + 1] w1 ⟨w1.ρ, w1.π, { w1.s with heap := h' }⟩ := ⟨⟨[], by simp, by simp⟩, fun c o e _ m => hk c o (fun q => m (q ▸ .head _)) e, fun c o e m => ⟨o, hk c o (fun q => m (q ▸ .head _)) e⟩, rfl, rfl, rfl, Nat.le_refl _⟩
   exact K ⟨w1.ρ, w1.π, { w1.s with heap := h' }⟩ S rfl (B1.turn hX S rfl (fun a o e m => nomatch (hn a m).symm.trans e) fun c m o e => hk c o (fun q => B1.apart p.fld _ (.head _) (q ▸ m)) e)
    ⟨p.r1.step hX S, p.r2.step hX S, p.out, hz', S.keep _ _ p.hTI p.nTI (hX.not p.hTI ⟨_, _, rfl⟩), p.nTI, p.h1.extBut hs.extBut hzi.1.symm, p.h2.extBut hs.extBut hzi.2.1.symm⟩
end
end
section
inductive Tr where
 | leaf (s : Nat)
 | node (s : Nat) (l r : Tr)
noncomputable def Tr.top : Tr → Nat
 | leaf s => s
 | node s _ _ => s
noncomputable def Tr.size : Tr → Nat
 | leaf _ => 1
 | node _ l r => 1 + l.size + r.size
noncomputable def Tr.deps : Nat → Tr → List (Int × Int)
 | d, leaf s => [((s : Int), (d : Int))]
 | d, node _ l r => l.deps (d + 1) ++ r.deps (d + 1)
noncomputable def Tr.In (P : List (Str × Str)) : Tr → Prop
 | leaf s => 1 ≤ s ∧ s < 256
 | node s l r => 256 ≤ s ∧ s < 300 ∧ l.top < 300 ∧ r.top < 300 ∧ P.find? (isK (numS s)) = some (numS s, two l.top r.top) ∧ l.In P ∧ r.In P
noncomputable def szs (st : List (Tr × Nat)) : Nat := (st.map fun p => p.1.size).sum
noncomputable def allD (st : List (Tr × Nat)) : List (Int × Int) := st.flatMap fun p => p.1.deps p.2
noncomputable abbrev pr (p : Tr × Nat) : V := .tup [nI p.1.top, nI p.2]
noncomputable def pileV (st : List (Tr × Nat)) : List V := .tup [.int 0, .int 0] :: st.reverse.map pr
theorem pileV_cons (p : Tr × Nat) (st : List (Tr × Nat)) : pileV (p :: st) = pileV st ++ [pr p] := by
 unfold pileV; rw [List.reverse_cons, List.map_append]; rfl
theorem pileV_len (st : List (Tr × Nat)) : (pileV st).length = st.length + 1 := by unfold pileV; simp
theorem size_pos : ∀ t : Tr, 1 ≤ t.size
 | .leaf _ => Nat.le_refl _
 | .node _ l r => by show 1 ≤ 1 + l.size + r.size; lia
theorem len_szs : ∀ st : List (Tr × Nat), st.length ≤ szs st
 | [] => Nat.le_refl _
 | p :: st => by
  have h1 := len_szs st
  have h2 := size_pos p.1
  show st.length + 1 ≤ p.1.size + szs st
  lia
theorem Fo.tree {C : Ct} {n : Nat} {env : Env} {target : PySem.Expr} {body : List PySem.Stmt} {Ok : List HObj → Prop} {S : Loc} {G : List (Tr × Nat) → List (Int × Int) → List HObj} {R : List (Int × Int) → Nat → List HObj} {u : V} {P : List (Str × Str)} (ok : ∀ st es, Ok (G st es))
  (hn : ∀ (t s : Nat) (l r : Tr) (d : Nat) st es, (Tr.node s l r).In P → st.length ≤ 900 → Turn C n env target body (nI t) S (G ((.node s l r, d) :: st) es) S (G ((l, d + 1) :: (r, d + 1) :: st) es))
  (hl : ∀ (t s d : Nat) st es, (Tr.leaf s).In P → es.lookup (s : Int) = none → es.length ≤ 900 → st.length ≤ 900 → Turn C n env target body (nI t) S (G ((.leaf s, d) :: st) es) S (G st (es ++ [((s : Int), (d : Int))])))
  (he : ∀ (t : Nat) es, es.lookup 0 = none → es.length ≤ 900 → ∃ σ0, As C n env target (nI t) S (G [] es) σ0 ∧ Ex C n env σ0 (G [] es) body (.ret u (R es t))) :
  ∀ (k t : Nat) (st : List (Tr × Nat)) (es : List (Int × Int)), szs st + 1 = k → k ≤ 900 → (∀ p ∈ st, p.1.In P) → ((es ++ allD st).map (·.1)).Nodup → (∀ q ∈ es ++ allD st, q.1 ≠ 0) → (es ++ allD st).length ≤ 900 → Fo C n env target body Ok ((List.range k).map fun i => nI (t + i)) S (G st es) (.ret u (R (es ++ allD st) (t + szs st)))
 | 0, t, st, es, h, _, _, _, _, _ => absurd h (Nat.succ_ne_zero _)
 | k + 1, t, st, es, h, hk, hin, hnd, h0, hlen => by
  have e : ((List.range (k + 1)).map fun i => nI (t + i)) = nI t :: (List.range k).map fun i => nI (t + 1 + i) := by
   rw [List.range_succ_eq_map, List.map_cons, List.map_map]
   refine List.cons_eq_cons.mpr ⟨rfl, List.map_congr_left fun i _ => ?_⟩
   show nI (t + (i + 1)) = nI (t + 1 + i)
   rw [show t + (i + 1) = t + 1 + i from by lia]
  rw [e]
  cases st with
  | nil =>
   have e1 : es ++ allD [] = es := List.append_nil es
   rw [e1] at hnd h0 hlen ⊢
   obtain ⟨σ0, g1, g2⟩ := he t es (look_none fun p m => h0 p m) hlen
   exact .ret (ok _ _) g1 g2
  | cons p st =>
   obtain ⟨T, d⟩ := p
   have hst : st.length ≤ 900 := by
    have h1 := len_szs ((T, d) :: st)
    rw [List.length_cons] at h1; lia
   have hT := hin _ (.head _)
   cases T with
   | leaf s =>
    have e1 : es ++ allD ((Tr.leaf s, d) :: st) = (es ++ [((s : Int), (d : Int))]) ++ allD st := by
     rw [List.append_assoc]; rfl
    have e2 : t + szs ((Tr.leaf s, d) :: st) = t + 1 + szs st := by show t + (1 + szs st) = _; lia
    rw [e1] at hnd h0 hlen ⊢
    rw [e2]
    have h' : szs st + 1 = k := by have h : (1 + szs st) + 1 = k + 1 := h; lia
    have hno : es.lookup (s : Int) = none := look_none fun q m z => by
     rw [List.map_append, List.map_append, List.nodup_append] at hnd
     have := hnd.1
     rw [List.nodup_append] at this
     exact this.2.2 _ (List.mem_map.mpr ⟨q, m, rfl⟩) _ (.head _) z
    obtain ⟨g1, g2, g3⟩ := hl t s d st es hT hno (by rw [List.length_append, List.length_append] at hlen; lia) hst
    exact .cons (ok _ _) g1 g2 (.weak g3 (Fo.tree ok hn hl he k (t + 1) st _ h' (by exact Nat.le_of_lt (by assumption)) (fun p m => hin p (.tail _ m)) hnd h0 hlen))
   | node s l r =>
    have e1 : es ++ allD ((Tr.node s l r, d) :: st) = es ++ allD ((l, d + 1) :: (r, d + 1) :: st) := by
     show es ++ ((l.deps (d + 1) ++ r.deps (d + 1)) ++ allD st) = es ++ (l.deps (d + 1) ++ (r.deps (d + 1) ++ allD st))
     rw [List.append_assoc]
    have e2 : t + szs ((Tr.node s l r, d) :: st) = t + 1 + szs ((l, d + 1) :: (r, d + 1) :: st) := by
     show t + ((1 + l.size + r.size) + szs st) = t + 1 + (l.size + (r.size + szs st)); lia
    rw [e1] at hnd h0 hlen ⊢
    rw [e2]
    have h' : szs ((l, d + 1) :: (r, d + 1) :: st) + 1 = k := by have h : ((1 + l.size + r.size) + szs st) + 1 = k + 1 := h; show (l.size + (r.size + szs st)) + 1 = k; lia
    obtain ⟨g1, g2, g3⟩ := hn t s l r d st es hT hst
    exact .cons (ok _ _) g1 g2 (.weak g3 (Fo.tree ok hn hl he k (t + 1) _ es h' (by exact Nat.le_of_lt (by assumption)) (fun p m => by
     have hT : 256 ≤ s ∧ s < 300 ∧ l.top < 300 ∧ r.top < 300 ∧ _ ∧ l.In P ∧ r.In P := hT
     rcases List.mem_cons.mp m with rfl | m
     ·exact hT.2.2.2.2.2.1
     ·rcases List.mem_cons.mp m with rfl | m
      ·exact hT.2.2.2.2.2.2
      ·exact hin p (.tail _ m)) hnd h0 hlen))
section
variable {C : Ct} {n : Nat} {env : Env} {σ σ1 : Loc} {H H1 H2 : List HObj} {u : V} {body : List PySem.Stmt} {a b : Nat} {target : PySem.Expr}
noncomputable abbrev GD (C : Ct) (H : List HObj) (st : List (Tr × Nat)) (es : List (Int × Int)) : List HObj := H ++ [.list (pileV st), .sem (dictA C es)]
theorem retEq (e : H1 = H2) (h : Ex C n env σ H body (.ret u H1)) : Ex C n env σ H body (.ret u H2) := e ▸ h
theorem foEq {Ok : List HObj → Prop} {l : List V} {o : Out} (e : H1 = H2) (h : Fo C n env target body Ok l σ H2 o) : Fo C n env target body Ok l σ H1 o := e ▸ h
theorem foL {Ok : List HObj → Prop} {l l' : List V} {o : Out} (e : l = l') (h : Fo C n env target body Ok l' σ H1 o) : Fo C n env target body Ok l σ H1 o := e ▸ h
theorem at_pile {x y : HObj} : (H ++ [x, y])[H.length]? = some x := by rw [List.getElem?_append_right (Nat.le_refl _), Nat.sub_self]; rfl
theorem at_dict {x y : HObj} : (H ++ [x, y])[H.length + 1]? = some y := by rw [List.getElem?_append_right (Nat.le_add_right _ _), Nat.add_sub_cancel_left]; rfl
theorem set_pile {x y z : HObj} : (H ++ [x, y]).set H.length z = H ++ [z, y] := by rw [List.set_append_right _ _ (Nat.le_refl _), Nat.sub_self]; rfl
theorem set_dict {x y z : HObj} : (H ++ [x, y]).set (H.length + 1) z = H ++ [x, z] := by rw [List.set_append_right _ _ (Nat.le_add_right _ _), Nat.add_sub_cancel_left]; rfl
theorem pop_at {p : Tr × Nat} {st : List (Tr × Nat)} {es : List (Int × Int)} (hs : st.length ≤ 900) : Mth C n "pop" (.ref H.length) [] (GD C H (p :: st) es) (GD C H st es) (pr p) "list" "list.pop" := by
 have h := Mth.pop (C := C) (n := n) (H := GD C H (p :: st) es) (l := pileV st) (v := pr p) (i := H.length) (by rw [← pileV_cons]; exact at_pile) (Nat.lt_of_le_of_lt (by rw [pileV_len]; exact Nat.succ_le_succ hs) (by decide : 901 < sizeLine))
 rw [set_pile] at h
 exact h
theorem pop_end {es : List (Int × Int)} : Mth C n "pop" (.ref H.length) [] (GD C H [] es) (H ++ [.list [], .sem (dictA C es)]) (.tup [.int 0, .int 0]) "list" "list.pop" := by
 have h := Mth.pop (C := C) (n := n) (H := GD C H [] es) (l := []) (v := .tup [.int 0, .int 0]) (i := H.length) at_pile (by decide)
 rw [set_pile] at h
 exact h
theorem push_two {p q : Tr × Nat} {st : List (Tr × Nat)} {es : List (Int × Int)} (hs : st.length ≤ 900) : Aug C n .Add (.ref H.length) (.lst [pr q, pr p]) (GD C H st es) (GD C H (p :: q :: st) es) (.ref H.length) := by
 have h := Aug.addL (C := C) (n := n) (i := H.length) (H := GD C H st es) (l := pileV st) (l' := [pr q, pr p]) (u := .lst [pr q, pr p]) at_pile Lsy.lst rfl (Nat.le_trans (by rw [pileV_len]; exact Nat.add_le_add_right (Nat.succ_le_succ hs) _) (by decide : 903 ≤ sizeLine))
 rw [set_pile] at h
 unfold GD
 rw [pileV_cons, pileV_cons, List.append_assoc]
 exact h
theorem lg1920 {a : Int} (h : a.natAbs < 300) : a.natAbs.log2 < 1920 := by
 by_cases q : a.natAbs = 0
 ·rw [q]; decide
 ·exact Nat.lt_trans ((Nat.log2_lt q).mpr (Nat.lt_trans h (by decide : 300 < 2 ^ 9))) (by decide)
theorem Fn.strN (h : a < 300) : Fn C n (.val (.type "str")) [nI a] [] H H (.str (numS a)) := Fn.strI (a := (a : Int)) (lg1920 h)
theorem Fn.intN (h : a < 300) : Fn C n (.val (.type "int")) [.str (numS a)] [] H H (nI a) := Fn.intS (Int.natCast_nonneg a) (by omega)
theorem split_two (ha : a < 300) (hb : b < 300) : Mth C n (Str.ofString "split") (.str (two a b)) [] H H (.lst [.str (numS a), .str (numS b)]) "str" "str.split" := by
 have h := Mth.split (C := C) (n := n) (H := H) (x := two a b) (Nat.le_trans (two_len ha hb) (by decide)) (by rw [spaces_two ha hb]; decide)
 rw [words_two ha hb] at h
 exact h
end
noncomputable abbrev bI (b : Bool) : Int := if b = true then 1 else 0
noncomputable def mkL (a : Int) : List Int := [bI (a == 0), bI (decide (a ≥ 256)), bI (decide (a < 256))]
theorem mk_node {s : Nat} (h : 256 ≤ s) : mkL (s : Int) = [0, 1, 0] := by
 unfold mkL
 rw [beq_eq_false_iff_ne.mpr (by lia), decide_eq_true (by exact Int.ofNat_le.mpr (by assumption) : (s : Int) ≥ 256), decide_eq_false (by lia : ¬ (s : Int) < 256)]; rfl
theorem mk_leaf {s : Nat} (h : 1 ≤ s ∧ s < 256) : mkL (s : Int) = [0, 0, 1] := by
 unfold mkL
 rw [beq_eq_false_iff_ne.mpr (by lia), decide_eq_false (by lia : ¬ (s : Int) ≥ 256), decide_eq_true (by lia : (s : Int) < 256)]; rfl
theorem allD_one (T : Tr) (d : Nat) : allD [(T, d)] = T.deps d := List.append_nil _
theorem szs_one (T : Tr) (d : Nat) : szs [(T, d)] = T.size := rfl
theorem rng12 : rngL 0 12 = (List.range 12).map fun i => nI (0 + i) := rfl
theorem retE {C : Ct} {n : Nat} {env : Env} {target : PySem.Expr} {body : List PySem.Stmt} {Ok : List HObj → Prop} {l : List V} {σ : Loc} {H : List HObj} {u : V} {H1 H2 : List HObj} (e : H1 = H2) (h : Fo C n env target body Ok l σ H (.ret u H1)) : Fo C n env target body Ok l σ H (.ret u H2) := e ▸ h
theorem fn_depths (c : C1) (H : List HObj) {i j : Nat} {P : List (Str × Str)} {T : Tr} (hj : H[j]? = some (.sem (ownA HX i))) (hi : H[i]? = some (.list (pairsV P))) (hlen : P.length ≤ 1000) (hl : ∀ q ∈ P, q.1.length ≤ 100000) (hin : T.In P) (hsz : T.size = 11) (hnd : ((T.deps 0).map (·.1)).Nodup) (hz : ∀ q ∈ T.deps 0, q.1 ≠ 0) (hle : (T.deps 0).length ≤ 900) : Fn c.ct 5 (.val (.ref 278)) [nI T.top, .sem (instA 247 j)] [] H (H ++ [.list [], .sem (dictA c.ct (T.deps 0 ++ [(0, 11)]))]) (.ref (H.length + 1)) := by
 refine' fnOf (ns := ["top", "tree"]) (vs := [nI T.top, .sem (instA 247 j)]) (o := .ret (.ref (H.length + 1)) (H ++ [.list [], .sem (dictA c.ct (T.deps 0 ++ [(0, 11)]))])) ?ho ?hb ?hst ?hcd ?hns ?hnd ?hbind ?hbody ?hfin
 walk_at "t_of"
 case hbind => exact bind2 fun q_ q_ => Looks.of_pure rfl
 case hbody =>
  intro env hS; dsimp only at hS
  exact (Ex.cons (Es.assignS (Ev.tup (EvL.cons (Ev.lstT (EvL.cons (Ev.tup (EvL.cons Ev.int (EvL.cons Ev.int EvL.nil))) (EvL.cons (Ev.tup (EvL.cons (Ev.loc rfl) (EvL.cons Ev.int EvL.nil))) EvL.nil)) (Nat.le_of_ble_eq_true rfl) (by rfl)) (EvL.cons (Ev.eqv (v1 := .ref (H.length + 1)) Ev.dict0 (by rw [List.length_append]; rfl)) EvL.nil))) rfl (stos_cons (il hS rfl) (stos_cons (il hS rfl) stos_nil)) (sw_of hS (by intro e he; cases e; dsimp only at he; subst he; rfl)) (ss_of hS (by intro e he; cases e; dsimp only at he; subst he; rfl)))
 (Ex.stop (Es.for (SrcE.of (Ev.call (gB (g_range _) (kind_of hS rfl)) (EvA.args (EvL.cons Ev.int EvL.nil)) Fn.range1 Kp.typ) (Src.rng (a := 0) (b := 12) (by decide) (by decide) (by decide) (by decide))) rfl (Fo.weak (σ' := [("pile", .ref H.length), ("depths", .ref (H.length + 1)), ("tree", .sem (instA 247 j))]) (subs_cons rfl (subs_cons rfl (subs_cons rfl subs_nil))) (foEq (by rw [List.append_assoc]; rfl) (foL (rng12) (retE (by rw [List.nil_append, allD_one, szs_one, hsz]; rfl) (Fo.tree (S := [("pile", .ref H.length), ("depths", .ref (H.length + 1)), ("tree", .sem (instA 247 j))]) (G := GD c.ct H) (R := fun es t => H ++ [.list [], .sem (dictA c.ct (es ++ [(0, ((t : Nat) : Int))]))]) (P := P) (fun q_ q_ => trivial)
  (fun t s l r d st es hT hst => by
   have hT : 256 ≤ s ∧ s < 300 ∧ l.top < 300 ∧ r.top < 300 ∧ P.find? (isK (numS s)) = some (numS s, two l.top r.top) ∧ l.In P ∧ r.In P := hT
   exact Turn.mk (Ast.name (.inr ⟨(il hS rfl), rfl⟩)) (Ex.cons (Es.assignT (Ev.meth0 (Ev.loc rfl) (pop_at hst) (Typ.lst (.ref at_pile)) rfl rfl) (AsL.cons (Ast.name (.inr ⟨(il hS rfl), rfl⟩)) (AsL.cons (Ast.name (.inr ⟨(il hS rfl), rfl⟩)) AsL.nil)) (sw_of hS (by intro e he; cases e; dsimp only at he; subst he; rfl)) (ss_of hS (by intro e he; cases e; dsimp only at he; subst he; rfl)))
 (Ex.cons (Es.compS hS (SrcE.of (Ev.tup (EvL.cons (Ev.call (gV (g_ISEOF _) (kind_of hS rfl)) (EvA.args (EvL.cons (Ev.loc rfl) EvL.nil)) ((fn_ISEOF c _).le (by decide)) (kp_ISEOF _)) (EvL.cons (Ev.call (gV (g_ISNONTERMINAL _) (kind_of hS rfl)) (EvA.args (EvL.cons (Ev.loc rfl) EvL.nil)) ((fn_ISNONTERMINAL c _).le (by decide)) (kp_ISNONTERMINAL _)) (EvL.cons (Ev.call (gV (g_ISTERMINAL _) (kind_of hS rfl)) (EvA.args (EvL.cons (Ev.loc rfl) EvL.nil)) ((fn_ISTERMINAL c _).le (by decide)) (kp_ISTERMINAL _)) EvL.nil)))) Src.tup) rfl (fun q_ => trivial) (by kernel_rfl) (fun cenv hC2 => (Co.eqr (rs' := (mkL ((s : Nat) : Int)).map V.int) (Co.map (f := V.bool) (g := fun b => .int (bI b)) (l := [(((s : Nat) : Int) : Int) == 0, decide ((((s : Nat) : Int) : Int) ≥ 256), decide ((((s : Nat) : Int) : Int) < 256)]) (fun b hb => ⟨_, (fun K => (Ast.name (.inl ⟨kind_of hC2 rfl, rfl⟩))), (fun K => (by cases b; exact (Ev.ifFb (Tst.cmp (Ev.loc rfl) Ev.bool Cmp.isB) rfl (Ev.ifTb (Tst.cmp (Ev.loc rfl) Ev.bool Cmp.isB) rfl Ev.int)); exact (Ev.ifTb (Tst.cmp (Ev.loc rfl) Ev.bool Cmp.isB) rfl Ev.int))), rfl, (sub_cons rfl)⟩)) rfl)) (Nat.le_of_ble_eq_true rfl) (fun q_ q_ => rfl) (Nat.le_refl _) (il hS rfl) (by intro e he; cases e; dsimp only at he; subst he; rfl))
 (Ex.cons (Es.ifFb (Tst.cmp (Ev.loc rfl) (Ev.lst (EvL.cons Ev.int (EvL.cons Ev.int (EvL.cons Ev.int EvL.nil)))) (Cmp.eqInts (xs := mkL ((s : Nat) : Int)) (ys := [1, 0, 1]) Lsy.lst Lsy.lst)) (by rw [mk_node hT.1]; rfl) Ex.nil)
 (Ex.one (Es.ifTb (Tst.cmp (Ev.loc rfl) (Ev.lst (EvL.cons Ev.int (EvL.cons Ev.int (EvL.cons Ev.int EvL.nil)))) (Cmp.eqInts (xs := mkL ((s : Nat) : Int)) (ys := [0, 1, 0]) Lsy.lst Lsy.lst)) (by rw [mk_node hT.1]; rfl) (Ex.cons (Es.assignU (Ev.meth0 (Ev.hdr (hm_get _) (Ev.loc rfl) (getElem?_append_some hj) (EvA.args (EvL.cons (Ev.call (gB (g_str _) (kind_of hS rfl)) (EvA.args (EvL.cons (Ev.loc rfl) EvL.nil)) (Fn.strN hT.2.1) Kp.typ) EvL.nil)) (by exact fn_get2 c _ (getElem?_append_some hj) (getElem?_append_some hi) hlen hl (Nat.le_trans (num_len hT.2.1) (by decide)) (by rw [low_num (by lia) hT.2.1]; exact plain_num hT.2.1) hT.2.2.2.2.1) rfl rfl) (split_two hT.2.2.1 hT.2.2.2.1) Typ.str rfl rfl) Lsy.lst (AsL.cons (Ast.name (.inr ⟨(il hS rfl), rfl⟩)) (AsL.cons (Ast.name (.inr ⟨(il hS rfl), rfl⟩)) AsL.nil)) (sw_of hS (by intro e he; cases e; dsimp only at he; subst he; rfl)) (ss_of hS (by intro e he; cases e; dsimp only at he; subst he; rfl)))
 (Ex.one (Es.aug rfl (by decide) (Ev.lst (EvL.cons (Ev.tup (EvL.cons (Ev.call (gB (g_int _) (kind_of hS rfl)) (EvA.args (EvL.cons (Ev.loc rfl) EvL.nil)) (Fn.intN hT.2.2.2.1) Kp.typ) (EvL.cons (Ev.bin (Ev.loc rfl) Ev.int (Bin.addE (r := ((d + 1 : Nat) : Int)) rfl)) EvL.nil))) (EvL.cons (Ev.tup (EvL.cons (Ev.call (gB (g_int _) (kind_of hS rfl)) (EvA.args (EvL.cons (Ev.loc rfl) EvL.nil)) (Fn.intN hT.2.2.1) Kp.typ) (EvL.cons (Ev.bin (Ev.loc rfl) Ev.int (Bin.addE (r := ((d + 1 : Nat) : Int)) rfl)) EvL.nil))) EvL.nil))) (push_two (p := (l, d + 1)) (q := (r, d + 1)) hst) (il hS rfl))))))))) (subs_cons rfl (subs_cons rfl (subs_cons rfl subs_nil))))
  (fun t s d st es hT hno hle hst => by
   have hT : 1 ≤ s ∧ s < 256 := hT
   exact Turn.mk (Ast.name (.inr ⟨(il hS rfl), rfl⟩)) (exEq set_dict (Ex.cons (Es.assignT (Ev.meth0 (Ev.loc rfl) (pop_at hst) (Typ.lst (.ref at_pile)) rfl rfl) (AsL.cons (Ast.name (.inr ⟨(il hS rfl), rfl⟩)) (AsL.cons (Ast.name (.inr ⟨(il hS rfl), rfl⟩)) AsL.nil)) (sw_of hS (by intro e he; cases e; dsimp only at he; subst he; rfl)) (ss_of hS (by intro e he; cases e; dsimp only at he; subst he; rfl)))
 (Ex.cons (Es.compS hS (SrcE.of (Ev.tup (EvL.cons (Ev.call (gV (g_ISEOF _) (kind_of hS rfl)) (EvA.args (EvL.cons (Ev.loc rfl) EvL.nil)) ((fn_ISEOF c _).le (by decide)) (kp_ISEOF _)) (EvL.cons (Ev.call (gV (g_ISNONTERMINAL _) (kind_of hS rfl)) (EvA.args (EvL.cons (Ev.loc rfl) EvL.nil)) ((fn_ISNONTERMINAL c _).le (by decide)) (kp_ISNONTERMINAL _)) (EvL.cons (Ev.call (gV (g_ISTERMINAL _) (kind_of hS rfl)) (EvA.args (EvL.cons (Ev.loc rfl) EvL.nil)) ((fn_ISTERMINAL c _).le (by decide)) (kp_ISTERMINAL _)) EvL.nil)))) Src.tup) rfl (fun q_ => trivial) (by kernel_rfl) (fun cenv hC3 => (Co.eqr (rs' := (mkL ((s : Nat) : Int)).map V.int) (Co.map (f := V.bool) (g := fun b => .int (bI b)) (l := [(((s : Nat) : Int) : Int) == 0, decide ((((s : Nat) : Int) : Int) ≥ 256), decide ((((s : Nat) : Int) : Int) < 256)]) (fun b hb => ⟨_, (fun K => (Ast.name (.inl ⟨kind_of hC3 rfl, rfl⟩))), (fun K => (by cases b; exact (Ev.ifFb (Tst.cmp (Ev.loc rfl) Ev.bool Cmp.isB) rfl (Ev.ifTb (Tst.cmp (Ev.loc rfl) Ev.bool Cmp.isB) rfl Ev.int)); exact (Ev.ifTb (Tst.cmp (Ev.loc rfl) Ev.bool Cmp.isB) rfl Ev.int))), rfl, (sub_cons rfl)⟩)) rfl)) (Nat.le_of_ble_eq_true rfl) (fun q_ q_ => rfl) (Nat.le_refl _) (il hS rfl) (by intro e he; cases e; dsimp only at he; subst he; rfl))
 (Ex.cons (Es.ifFb (Tst.cmp (Ev.loc rfl) (Ev.lst (EvL.cons Ev.int (EvL.cons Ev.int (EvL.cons Ev.int EvL.nil)))) (Cmp.eqInts (xs := mkL ((s : Nat) : Int)) (ys := [1, 0, 1]) Lsy.lst Lsy.lst)) (by rw [mk_leaf hT]; rfl) Ex.nil)
 (Ex.one (Es.ifFb (Tst.cmp (Ev.loc rfl) (Ev.lst (EvL.cons Ev.int (EvL.cons Ev.int (EvL.cons Ev.int EvL.nil)))) (Cmp.eqInts (xs := mkL ((s : Nat) : Int)) (ys := [0, 1, 0]) Lsy.lst Lsy.lst)) (by rw [mk_leaf hT]; rfl) (Ex.one (Es.ifTb (Tst.cmp (Ev.loc rfl) (Ev.lst (EvL.cons Ev.int (EvL.cons Ev.int (EvL.cons Ev.int EvL.nil)))) (Cmp.eqInts (xs := mkL ((s : Nat) : Int)) (ys := [0, 0, 1]) Lsy.lst Lsy.lst)) (by rw [mk_leaf hT]; rfl) (Ex.one (Es.dictI (a := ((d : Nat) : Int)) (k := ((s : Nat) : Int)) (Ev.loc rfl) (Ev.loc rfl) (Ev.loc rfl) at_dict hno (Nat.le_trans hle (by decide)) rfl)))))))))) (subs_cons rfl (subs_cons rfl (subs_cons rfl subs_nil))))
  (fun t es h0 hle => ⟨_, (Ast.name (.inr ⟨(il hS rfl), rfl⟩)), retEq set_dict (Ex.cons (Es.assignT (Ev.meth0 (Ev.loc rfl) pop_end (Typ.lst (.ref at_pile)) rfl rfl) (AsL.cons (Ast.name (.inr ⟨(il hS rfl), rfl⟩)) (AsL.cons (Ast.name (.inr ⟨(il hS rfl), rfl⟩)) AsL.nil)) (sw_of hS (by intro e he; cases e; dsimp only at he; subst he; rfl)) (ss_of hS (by intro e he; cases e; dsimp only at he; subst he; rfl)))
 (Ex.cons (Es.compS hS (SrcE.of (Ev.tup (EvL.cons (Ev.call (gV (g_ISEOF _) (kind_of hS rfl)) (EvA.args (EvL.cons (Ev.loc rfl) EvL.nil)) ((fn_ISEOF c _).le (by decide)) (kp_ISEOF _)) (EvL.cons (Ev.call (gV (g_ISNONTERMINAL _) (kind_of hS rfl)) (EvA.args (EvL.cons (Ev.loc rfl) EvL.nil)) ((fn_ISNONTERMINAL c _).le (by decide)) (kp_ISNONTERMINAL _)) (EvL.cons (Ev.call (gV (g_ISTERMINAL _) (kind_of hS rfl)) (EvA.args (EvL.cons (Ev.loc rfl) EvL.nil)) ((fn_ISTERMINAL c _).le (by decide)) (kp_ISTERMINAL _)) EvL.nil)))) Src.tup) rfl (fun q_ => trivial) (by kernel_rfl) (fun cenv hC1 => (Co.eqr (rs' := (mkL (0 : Int)).map V.int) (Co.map (f := V.bool) (g := fun b => .int (bI b)) (l := [((0 : Int) : Int) == 0, decide (((0 : Int) : Int) ≥ 256), decide (((0 : Int) : Int) < 256)]) (fun b hb => ⟨_, (fun K => (Ast.name (.inl ⟨kind_of hC1 rfl, rfl⟩))), (fun K => (by cases b; exact (Ev.ifFb (Tst.cmp (Ev.loc rfl) Ev.bool Cmp.isB) rfl (Ev.ifTb (Tst.cmp (Ev.loc rfl) Ev.bool Cmp.isB) rfl Ev.int)); exact (Ev.ifTb (Tst.cmp (Ev.loc rfl) Ev.bool Cmp.isB) rfl Ev.int))), rfl, (sub_cons rfl)⟩)) rfl)) (Nat.le_of_ble_eq_true rfl) (fun q_ q_ => rfl) (Nat.le_refl _) (il hS rfl) (by intro e he; cases e; dsimp only at he; subst he; rfl))
 (Ex.stop (Es.ifTb (Tst.cmp (Ev.loc rfl) (Ev.lst (EvL.cons Ev.int (EvL.cons Ev.int (EvL.cons Ev.int EvL.nil)))) (Cmp.eqInts (xs := mkL (0 : Int)) (ys := [1, 0, 1]) Lsy.lst Lsy.lst)) (by rw [show mkL 0 = [1, 0, 1] from rfl]; rfl) (Ex.cons (Es.dictI (a := ((t : Nat) : Int)) (k := 0) (Ev.loc rfl) (Ev.loc rfl) Ev.int at_dict h0 (Nat.le_trans hle (by decide)) rfl)
 (Ex.stop (Es.ret (Ev.loc rfl)) (by intro _ _ h; cases h)))) (by intro _ _ h; cases h))))⟩) 12 0 [(T, 0)] [] (by rw [szs_one, hsz]) (by decide) (fun p m => by obtain rfl := List.mem_singleton.mp m; exact hin) (by rw [List.nil_append, allD_one]; exact hnd) (by rw [List.nil_append, allD_one]; exact hz) (by rw [List.nil_append, allD_one]; exact hle)))))) (fun q_ q_ => rfl)) (by intro _ _ h; cases h)))
 case hfin => first | exact Fin.ret | exact Fin.next
end
theorem filter_first {p : Nat → Bool} {a m : Nat} (ha : a < m) (h1 : p a = true) (h2 : ∀ j, j < a → p j = false) : ((List.range m).filter p)[0]? = some a := by
 obtain ⟨k, rfl⟩ : ∃ k, m = a + (k + 1) := ⟨m - a - 1, by omega⟩
 rw [List.range_add, List.filter_append, List.filter_eq_nil_iff.mpr fun x hx => by rw [h2 x (List.mem_range.mp hx)]; exact Bool.false_ne_true]
 rw [List.range_succ_eq_map, List.map_cons, List.nil_append, Nat.add_zero, List.filter_cons_of_pos h1]; rfl
noncomputable def askF (ws : List Nat) (k : Nat) : Bool := decide (k + 2 = ws.length) || decide (ws.getD k 0 ≤ ws.getD (k + 2) 0)
theorem at_first {ws : List Nat} (h : 2 ≤ ws.length) : ((List.range (ws.length - 1)).filter (askF ws))[0]? = some (atF ws) := by
 obtain ⟨h1, h2, h3⟩ := at_ok h
 refine filter_first (by omega) ?_ fun j hj => ?_
 ·unfold askF
  by_cases q : atF ws + 2 = ws.length
  ·rw [decide_eq_true q]; rfl
  ·rw [decide_eq_true (h3 (by lia)), Bool.or_true]
 ·unfold askF
  rw [decide_eq_false (by lia : ¬ j + 2 = ws.length), decide_eq_false (by have := h2 j hj; exact Nat.not_le.mpr (by assumption))]; rfl
theorem cut_exists {q : Nat → Bool} : ∀ {hi : Nat}, (∀ i, i + 1 < hi → q (i + 1) = true → q i = true) → ∃ r, r ≤ hi ∧ (∀ i, i < r → q i = true) ∧ ∀ i, r ≤ i → i < hi → q i = false
 | 0, _ => ⟨0, Nat.le_refl _, fun i h => absurd h (Nat.not_lt_zero _), fun i _ h => absurd h (Nat.not_lt_zero _)⟩
 | hi + 1, h => by
  obtain ⟨r, h1, h2, h3⟩ := cut_exists (q := q) (hi := hi) fun i hl => h i (Nat.lt_succ_of_lt hl)
  by_cases z : q hi = true
  ·have all : ∀ j i, i + j = hi → q i = true := by
    intro j
    induction j with
    | zero => intro i e; rw [Nat.add_zero] at e; rw [e]; exact z
    | succ j ih => intro i e; exact h i (by lia) (ih (i + 1) (by lia))
   exact ⟨hi + 1, Nat.le_refl _, fun i hl => all (hi - i) i (by lia), fun i a b => absurd a (Nat.not_le.mpr b)⟩
  ·refine ⟨r, Nat.le_succ_of_le h1, h2, fun i a b => ?_⟩
   by_cases e : i = hi
   ·rw [e]; exact Bool.eq_false_iff.mpr z
   ·exact h3 i a (by lia)
theorem place_two {ws : List Nat} (h : 2 ≤ ws.length) : ∃ e o, e ≤ (atF ws + 1) / 2 ∧ o ≤ atF ws / 2 ∧ (∀ i, i < e → twoF ws ≤ ws.getD (2 * i) 0) ∧ (∀ i, e ≤ i → i < (atF ws + 1) / 2 → ws.getD (2 * i) 0 < twoF ws) ∧
  (∀ i, i < o → twoF ws ≤ ws.getD (2 * i + 1) 0) ∧ (∀ i, o ≤ i → i < atF ws / 2 → ws.getD (2 * i + 1) 0 < twoF ws) ∧ (if (2 * (o : Int)) > 2 * (e : Int) - 1 then (2 * (o : Int)) else 2 * (e : Int) - 1) = ((plF ws : Nat) : Int) := by
 obtain ⟨g1, g2, g3⟩ := at_ok h
 obtain ⟨e, e1, e2, e3⟩ := cut_exists (q := fun i => decide (twoF ws ≤ ws.getD (2 * i) 0)) (hi := (atF ws + 1) / 2) fun i hl z => by
  have z := of_decide_eq_true z
  have := g2 (2 * i) (by lia)
  exact decide_eq_true (Nat.le_of_lt (Nat.lt_of_le_of_lt z this))
 obtain ⟨o, o1, o2, o3⟩ := cut_exists (q := fun i => decide (twoF ws ≤ ws.getD (2 * i + 1) 0)) (hi := atF ws / 2) fun i hl z => by
  have z := of_decide_eq_true z
  have := g2 (2 * i + 1) (by lia)
  exact decide_eq_true (Nat.le_of_lt (Nat.lt_of_le_of_lt z this))
 refine ⟨e, o, e1, o1, fun i hl => of_decide_eq_true (e2 i hl), fun i a b => Nat.not_le.mp (of_decide_eq_false (e3 i a b)), fun i hl => of_decide_eq_true (o2 i hl), fun i a b => Nat.not_le.mp (of_decide_eq_false (o3 i a b)), ?_⟩
 have hl : (ws.take (atF ws)).length = atF ws := by rw [List.length_take]; lia
 have le : plF ws ≤ atF ws := hl ▸ place_le
 have big : 0 < plF ws → twoF ws ≤ ws.getD (plF ws - 1) 0 := fun q => by
  have z := place_big (b := twoF ws) (l := ws.take (atF ws)) q
  rwa [getD_take (Nat.lt_of_lt_of_le (Nat.sub_lt q Nat.one_pos) le)] at z
 have low : ∀ j, plF ws ≤ j → j < atF ws → ws.getD j 0 < twoF ws := fun j a b => by
  have z := place_low (b := twoF ws) (l := ws.take (atF ws)) a (by rw [hl]; exact b)
  rwa [getD_take b] at z
 have m1 : ∀ m, (m = 2 * o ∨ m + 1 = 2 * e) → 0 < m → m ≤ atF ws ∧ twoF ws ≤ ws.getD (m - 1) 0 := fun m hm h0 => by
  rcases hm with rfl | hm
  ·refine ⟨by lia, ?_⟩
   have := of_decide_eq_true (o2 (o - 1) (by lia))
   rwa [show 2 * (o - 1) + 1 = 2 * o - 1 from by lia] at this
  ·refine ⟨by lia, ?_⟩
   have := of_decide_eq_true (e2 (e - 1) (by lia))
   rwa [show 2 * (e - 1) = m - 1 from by lia] at this
 have m2 : ∀ m, 2 * o ≤ m → 2 * e ≤ m + 1 → ∀ j, m ≤ j → j < atF ws → ws.getD j 0 < twoF ws := fun m h1 h2 j a b => by
  by_cases q : j % 2 = 0
  ·have := Nat.not_le.mp (of_decide_eq_false (e3 (j / 2) (by lia) (by lia)))
   rwa [show 2 * (j / 2) = j from by lia] at this
  ·have := Nat.not_le.mp (of_decide_eq_false (o3 (j / 2) (by lia) (by lia)))
   rwa [show 2 * (j / 2) + 1 = j from by lia] at this
 have fin : ∀ m, (m = 2 * o ∨ m + 1 = 2 * e) → 2 * o ≤ m → 2 * e ≤ m + 1 → m = plF ws := fun m hm h1 h2 => by
  rcases Nat.lt_trichotomy m (plF ws) with c | c | c
  ·have z1 := big (by lia)
   have z2 := m2 m h1 h2 (plF ws - 1) (by lia) (by lia)
   lia
  ·exact c
  ·obtain ⟨z0, z1⟩ := m1 m hm (by lia)
   have z2 := low (m - 1) (by lia) (by lia)
   lia
 by_cases c : (2 * (o : Int)) > 2 * (e : Int) - 1
 ·rw [if_pos c, ← fin (2 * o) (.inl rfl) (Nat.le_refl _) (by lia)]; rfl
 ·rw [if_neg c]
  have := fin (2 * e - 1) (.inr (by lia)) (by lia) (by lia)
  lia
theorem plF_le {ws : List Nat} (h : 2 ≤ ws.length) : plF ws ≤ atF ws := (step_of h).le
theorem Fn.max2 {C : Ct} {n : Nat} {H : List HObj} {a b m : Int} (e : (if b > a then b else a) = m) : Fn C n (.val (.builtin "max")) [.int a, .int b] [] H H (.int m) := by
 intro A w Q E g xs ks R B rg rx rk K
 obtain ⟨_, rfl⟩ := rg.inv
 cases rk.inv0
 have rx' : VRels w ([a, b].map V.int) xs := rx
 obtain ⟨y, z, rfl, -, -⟩ := rx.inv2
 have hT : (w.s.heap.push { cls := .type "tuple", data := .seq #[y, z] }).IsTuple w.s.heap.objs.size #[y, z] := ⟨_, Heap.get?_push_size _ rfl, rfl, 0, rfl⟩
 have hsz : (w.s.heap.push { cls := .type "tuple", data := .seq #[y, z] }).objs.size = w.s.heap.objs.size + 1 := Heap.size_push ..
 refine wpAny_with_toks (Nat.le_refl _) (call_max_two (wpAny_pyIter_tuple hT ?_))
 refine ⟨_, [_, w.s.heap.objs.size], [_], _, _, _, _, rfl, Walks.tuple (A := A.in1) R.hd _ w.s.heap.objs.size (by rw [hsz]; exact Nat.ne_of_lt (Nat.lt_succ_self _)) #[y, z],
  ⟨⟨_, Heap.get?_push_size _ rfl, rfl, rfl⟩, hT.push _⟩, fun d hd => ?_, by simp, CmpOf.ints_gt (fun i => [a, b].getD i 0) (fun i v hv => int_at rx' (by simpa using hv)), fun v h' tk hP hk htk => ?_⟩
 ·show d < ((w.s.heap.push _).push _).objs.size
  rw [Heap.size_push, hsz]
  rcases List.mem_cons.mp hd with rfl | hd
  ·rw [hsz]; exact Nat.lt_succ_self _
  ·rcases List.mem_cons.mp hd with rfl | hd
   ·exact Nat.lt_succ_of_lt (Nat.lt_succ_self _)
   ·cases hd
 ·have X : Ext w ⟨w.ρ, w.π, { w.s with heap := h', toks := tk }⟩ := by
   refine ⟨rfl, fun b o e => hk b o (fun hm => ?_) (Heap.get?_push_of_some _ (Heap.get?_push_of_some _ e)), rfl, rfl, rfl, htk⟩
   rw [List.mem_singleton.mp hm, hsz] at e
   exact Nat.lt_irrefl _ (Nat.lt_of_succ_lt (Heap.lt_size e))
  obtain ⟨t, rfl⟩ := int_at rx' (i := argBest (fun i j => decide ([a, b].getD i 0 > [a, b].getD j 0)) 1) (by simpa using hP)
  have q : [a, b].getD (argBest (fun i j => decide ([a, b].getD i 0 > [a, b].getD j 0)) 1) 0 = m := by
   rw [← e]
   show [a, b].getD (if decide (b > a) = true then 1 else 0) 0 = _
   by_cases z : b > a
   ·rw [decide_eq_true z, if_pos z]; rfl
   ·rw [decide_eq_false z, if_neg z]; rfl
  exact K ⟨w.ρ, w.π, _⟩ _ X.step (B.ext X) (by rw [q]; exact .int _ _)
theorem codeHd_of {C : C1} {c P : Addr} {od : Option Addr} {osl : Array (Option Value)} {vs : Array Value} {file : Str} {tf tg tt : Tok} {flags text : Int} {inF : Bool} (h : (hd02.heap_39 C.w.params).lookup c = some ⟨.type "code", od, .fields vs, osl⟩) (h1 : vs[11]? = some (.ref P)) (h2 : vs.getD 18 .none = .str file tf) (h3 : vs.getD 7 .none = .int flags tg) (h4 : vs.getD 9 .none = .bool inF) (h5 : vs.getD 10 .none = .int text tt) (h6 : c ≠ P) : CodeHd C.h₀ c P :=
 ⟨_, vs, file, tf, flags, tg, inF, text, tt, C.X _ _ h, rfl, rfl, h1, by simp [Array.getD_eq_getD_getElem?, h1], h2, h3, h4, h5, h6⟩
theorem hd_weights (c : C1) : CodeHd c.h₀ 267 265 := by
 refine' codeHd_of (C := c) ?k1 ?k2 ?k3 ?k4 ?k5 ?k6 ?k7
 case k1 => k_is
 case k2 => rfl
 case k3 => rfl
 case k4 => rfl
 case k5 => rfl
 case k6 => rfl
 case k7 => decide
theorem hd_grown (c : C1) : CodeHd c.h₀ 272 270 := by
 refine' codeHd_of (C := c) ?k1 ?k2 ?k3 ?k4 ?k5 ?k6 ?k7
 case k1 => k_is
 case k2 => rfl
 case k3 => rfl
 case k4 => rfl
 case k5 => rfl
 case k6 => rfl
 case k7 => decide
theorem lam_ref {h₀ : Heap} {q : Str} {params : Arguments} {body : PySem.Expr} {scope : Scope} {caps : List (Str × V)} {m : Nat} {hm : caps.all (fun p => p.2.lowOk m) = true} : ∀ (w : Wd) g, VRel w (.sem (lamA h₀ q params body scope caps m hm)) g → ∃ q, g = .ref q := fun w g r => by
 have h := r.inv
 obtain ⟨f, c, ctv, pm, clos, rfl, _⟩ := h
 exact ⟨f, rfl⟩
theorem kp_lam {C : Ct} {h₀ : Heap} {q : Str} {params : Arguments} {body : PySem.Expr} {scope : Scope} {caps : List (Str × V)} {m : Nat} {hm : caps.all (fun p => p.2.lowOk m) = true} : Kp C (.sem (lamA h₀ q params body scope caps m hm)) := fun w H g B r => by
 have h := r.inv
 obtain ⟨f, c, ctv, pm, clos, rfl, nf, e, _⟩ := h
 exact keeps_F _ ⟨_, _, _, _, e⟩
theorem lam_some {h₀ : Heap} {q : Str} {params : Arguments} {body : PySem.Expr} {scope : Scope} {caps : List (Str × V)} {m : Nat} {hm : caps.all (fun p => p.2.lowOk m) = true} : ∀ (w : Wd) x, VRel w (.sem (lamA h₀ q params body scope caps m hm)) x → (x == Value.none) = false := fun w x r => by
 obtain ⟨q, rfl⟩ := lam_ref w x r
 rfl
noncomputable abbrev rowP (q : Nat × Tr) : V := .tup [nI q.1, nI q.2.top]
noncomputable def rowV (rw : List (Nat × Tr)) : List V := rw.map rowP
noncomputable abbrev wsR (rw : List (Nat × Tr)) : List Nat := rw.map (·.1)
noncomputable abbrev trR (rw : List (Nat × Tr)) (k : Nat) : Tr := (rw.getD k (0, .leaf 0)).2
noncomputable def stepR (i : Nat) (rw : List (Nat × Tr)) : List (Nat × Tr) :=
 rw.take (plF (wsR rw)) ++ ((twoF (wsR rw), Tr.node (256 + i) (trR rw (atF (wsR rw))) (trR rw (atF (wsR rw) + 1))) :: ((rw.drop (plF (wsR rw))).take (atF (wsR rw) - plF (wsR rw)) ++ rw.drop (atF (wsR rw) + 2)))
noncomputable def rowN (rw : List (Nat × Tr)) : Nat → List (Nat × Tr)
 | 0 => rw
 | i + 1 => stepR i (rowN rw i)
noncomputable def pairR (i : Nat) (rw : List (Nat × Tr)) : Str × Str := (numS (256 + i), two (trR rw (atF (wsR rw))).top (trR rw (atF (wsR rw) + 1)).top)
noncomputable def prsN (rw : List (Nat × Tr)) : Nat → List (Str × Str)
 | 0 => []
 | i + 1 => prsN rw i ++ [pairR i (rowN rw i)]
theorem rowV_len (rw : List (Nat × Tr)) : (rowV rw).length = rw.length := List.length_map ..
theorem prsN_len (rw : List (Nat × Tr)) : ∀ i, (prsN rw i).length = i
 | 0 => rfl
 | i + 1 => by show (prsN rw i ++ _).length = _; rw [List.length_append, prsN_len rw i]; rfl
theorem wsR_step (i : Nat) (rw : List (Nat × Tr)) : wsR (stepR i rw) = nxt (atF (wsR rw)) (plF (wsR rw)) (wsR rw) := by
 unfold stepR nxt
 simp only [wsR, List.map_append, List.map_cons, List.map_take, List.map_drop]
theorem step_len {i : Nat} {rw : List (Nat × Tr)} (h : 2 ≤ rw.length) : (stepR i rw).length + 1 = rw.length := by
 have e : (wsR (stepR i rw)).length = (stepR i rw).length := List.length_map ..
 have h' : 2 ≤ (wsR rw).length := by rw [List.length_map]; exact h
 have := nxt_len (w := wsR rw) (plF_le h') (at_ok h').1
 rw [← wsR_step i, List.length_map, List.length_map] at this
 exact this
theorem rowN_len {rw : List (Nat × Tr)} {m : Nat} (h : rw.length = m + 1) : ∀ i, i ≤ m → (rowN rw i).length + i = m + 1
 | 0, _ => h
 | i + 1, hi => by
  have := rowN_len h i (by exact Nat.le_of_lt (by assumption))
  have q := step_len (i := i) (rw := rowN rw i) (by lia)
  show (stepR i (rowN rw i)).length + (i + 1) = _
  lia
theorem mem_take_drop {α : Type} {x : α} {l : List α} {p k : Nat} (h : x ∈ (l.drop p).take k) : x ∈ l := List.mem_of_mem_drop (List.mem_of_mem_take h)
theorem rowN_top {rw : List (Nat × Tr)} (h : ∀ q ∈ rw, q.2.top < 256) : ∀ i, ∀ q ∈ rowN rw i, q.2.top < 256 + i
 | 0, q, m => h q m
 | i + 1, q, m => by
  have ih := rowN_top h i
  have m : q ∈ stepR i (rowN rw i) := m
  unfold stepR at m
  rcases List.mem_append.mp m with m | m
  ·have := ih q (List.mem_of_mem_take m); exact Nat.lt_succ_of_lt (by assumption)
  ·rcases List.mem_cons.mp m with rfl | m
   ·show 256 + i < 256 + (i + 1); exact Nat.lt_succ_self _
   ·rcases List.mem_append.mp m with m | m
    ·have := ih q (mem_take_drop m); exact Nat.lt_succ_of_lt (by assumption)
    ·have := ih q (List.mem_of_mem_drop m); exact Nat.lt_succ_of_lt (by assumption)
theorem getD_of {rw : List (Nat × Tr)} {k : Nat} {q : Nat × Tr} (h : rw[k]? = some q) : (wsR rw).getD k 0 = q.1 ∧ trR rw k = q.2 := by
 rw [List.getD_eq_getElem?_getD, List.getElem?_map, h]
 unfold trR
 rw [List.getD_eq_getElem?_getD, h]; exact ⟨rfl, rfl⟩
theorem rowV_at {rw : List (Nat × Tr)} {k : Nat} (h : k < rw.length) : (rowV rw)[k]? = some (.tup [nI ((wsR rw).getD k 0), nI (trR rw k).top]) := by
 have e : rw[k]? = some rw[k] := List.getElem?_eq_getElem h
 obtain ⟨e1, e2⟩ := getD_of e
 unfold rowV
 rw [List.getElem?_map, e, e1, e2]; rfl
theorem rowV_atI {rw : List (Nat × Tr)} {k : Nat} (h : k < rw.length) : (rowV rw)[((k : Nat) : Int).toNat]? = some (.tup [nI ((wsR rw).getD k 0), nI (trR rw k).top]) := rowV_at h
theorem even_at {rw : List (Nat × Tr)} {i : Nat} {v : V} (h : (pick (rowV rw) none none (some 2))[i]? = some v) (hi : 2 * i < rw.length) : v = .tup [nI ((wsR rw).getD (2 * i) 0), nI (trR rw (2 * i)).top] := by
 rw [(pick_even (rowV rw)).2 i (by rw [rowV_len]; exact hi), rowV_at hi] at h
 exact (Option.some.inj h).symm
theorem odd_at {rw : List (Nat × Tr)} {i : Nat} {v : V} (h : (pick (rowV rw) (some 1) none (some 2))[i]? = some v) (hi : 2 * i + 1 < rw.length) : v = .tup [nI ((wsR rw).getD (2 * i + 1) 0), nI (trR rw (2 * i + 1)).top] := by
 rw [(pick_odd (rowV rw)).2 i (by rw [rowV_len]; exact hi), rowV_at hi] at h
 exact (Option.some.inj h).symm
theorem rng0 (b : Nat) : rngL 0 ((b : Nat) : Int) = (List.range b).map nI := by
 rw [show (0 : Int) = ((0 : Nat) : Int) from rfl, rngL_nat, Nat.sub_zero]
 exact List.map_congr_left fun k _ => by rw [Nat.zero_add]
theorem Bin.halfN {C : Ct} {n : Nat} {H : List HObj} {x : Nat} : Bin C n .FloorDiv (.int ((x : Nat) : Int)) (.int 2) H H (.int ((x / 2 : Nat) : Int)) := Bin.fdivE (by decide) (by decide) (by rw [Int.fdiv_eq_ediv_of_nonneg _ (by decide)]; rfl)
theorem Tst.eqb {C : Ct} {n : Nat} {env : Env} {σ : Loc} {H H1 : List HObj} {e : PySem.Expr} {b b' : Bool} (h : Tst C n env σ H e H1 b) (q : b = b') : Tst C n env σ H e H1 b' := q ▸ h
theorem ask_or {ws : List Nat} {k : Nat} : (k + 2 = ws.length ∧ askF ws k = true) ∨ (k + 2 ≠ ws.length ∧ ws.getD k 0 ≤ ws.getD (k + 2) 0 ∧ askF ws k = true) ∨ (k + 2 ≠ ws.length ∧ ¬ ws.getD k 0 ≤ ws.getD (k + 2) 0 ∧ askF ws k = false) := by
 unfold askF
 by_cases q : k + 2 = ws.length
 ·exact .inl ⟨q, by rw [decide_eq_true q]; rfl⟩
 ·by_cases z : ws.getD k 0 ≤ ws.getD (k + 2) 0
  ·exact .inr (.inl ⟨q, z, by rw [decide_eq_true z, Bool.or_true]⟩)
  ·exact .inr (.inr ⟨q, z, by rw [decide_eq_false q, decide_eq_false z]; rfl⟩)
theorem row_next {rw : List (Nat × Tr)} {i : Nat} : ((((rowV rw).take (plF (wsR rw)) ++ [V.tup [nI (twoF (wsR rw)), nI (256 + i)]]) ++ ((rowV rw).drop (plF (wsR rw))).take (atF (wsR rw) - plF (wsR rw))) ++ (rowV rw).drop (atF (wsR rw) + 2)) = rowV (stepR i rw) := by
 unfold rowV stepR
 rw [List.map_append, List.map_cons, List.map_append, List.map_take, List.map_take, List.map_drop, List.map_drop, List.append_assoc, List.append_assoc]; rfl
theorem set_self {H : List HObj} {i : Nat} {x : HObj} (h : H[i]? = some x) : H.set i x = H := by
 obtain ⟨hl, he⟩ := List.getElem?_eq_some_iff.mp h
 rw [← he]; exact List.set_getElem_self hl
theorem set_ne {H : List HObj} {i j : Nat} {x' : OAsrt} {y : HObj} {l : List V} (h : H[j]? = some (.sem x')) (hi : H[i]? = some (.list l)) : (H.set i y)[j]? = some (.sem x') := by
 by_cases e : i = j
 ·subst e; rw [h] at hi; cases hi
 ·rw [List.getElem?_set_ne e]; exact h
theorem set_at {H : List HObj} {i : Nat} {x y : HObj} (h : H[i]? = some x) : (H.set i y)[i]? = some y := by
 rw [List.getElem?_set_self (List.getElem?_eq_some_iff.mp h).1]
theorem set_set {H : List HObj} {i : Nat} {x y : HObj} : (H.set i x).set i y = H.set i y := List.set_set ..
theorem trR_mem {rw : List (Nat × Tr)} {k : Nat} (h : k < rw.length) : (rw.getD k (0, .leaf 0)) ∈ rw := by
 rw [List.getD_eq_getElem?_getD, List.getElem?_eq_getElem h]; exact List.getElem_mem h
theorem two_lenS {a b : Nat} (ha : a < 300) (hb : b < 300) : (numS a ++ sSp).length + (numS b).length ≤ 10 := by
 have h1 := (num_ok ha).2.2.2.1
 have h2 := num_len hb
 have h3 : (numS a ++ sSp).length = (cs (numS a ++ sSp)).length := KWk.len_list
 rw [cs_append, List.length_append, show cs sSp = [32] from by decide, List.length_singleton] at h3
 lia
theorem add1_le {n : Nat} (h : n ≤ 6) (p : Nat) : min p n + (0 + 1) ≤ 16777216 := Nat.le_trans (Nat.add_le_add_right (Nat.le_trans (Nat.min_le_right _ _) h) _) (by decide)
theorem add2_le {n : Nat} (h : n ≤ 6) (p q r : Nat) : min p n + (0 + 1) + min q (n - r) ≤ 16777216 := Nat.le_trans (Nat.add_le_add (Nat.add_le_add_right (Nat.le_trans (Nat.min_le_right _ _) h) _) (Nat.le_trans (Nat.min_le_right _ _) (Nat.le_trans (Nat.sub_le _ _) h))) (by decide)
theorem add3_le {n : Nat} (h : n ≤ 6) (p q r s : Nat) : min p n + (0 + 1) + min q (n - r) + (n - s) ≤ 16777216 := Nat.le_trans (Nat.add_le_add (Nat.add_le_add (Nat.add_le_add_right (Nat.le_trans (Nat.min_le_right _ _) h) _) (Nat.le_trans (Nat.min_le_right _ _) (Nat.le_trans (Nat.sub_le _ _) h))) (Nat.le_trans (Nat.sub_le _ _) h)) (by decide)
theorem fn_grown (c : C1) (H : List HObj) {t ia j : Nat} {rw : List (Nat × Tr)} (hT : H[t]? = some (.sem (tabA t 270 (Str.ofString "_law_grown.<locals>.<lambda>")))) (hj : H[j]? = some (.sem (ownA HX ia))) (hi : H[ia]? = some (.list (pairsV []))) (h6 : rw.length = 6) (htop : ∀ q ∈ rw, q.2.top < 256) : Fn c.ct 7 (.val (.ref 273)) [.lst (rowV rw), .sem (instA 247 j)] [] H (H.set ia (.list (pairsV (prsN rw 5)))) (nI (trR (rowN rw 5) 0).top) := by
 obtain ⟨bm, ob, b1, b2, b3, b4, b5, b6⟩ := c.bm
 refine' fnOfE (ns := ["row", "tree"]) (vs := [.lst (rowV rw), .sem (instA 247 j)]) (o := .ret (nI (trR (rowN rw 5) 0).top) (H.set ia (.list (pairsV (prsN rw 5))))) ?ho ?hb ?hst ?hcd ?hns ?hnd ?hbind ?hbody ?hfin
 walk_at "t_of"
 case hbind => exact bind2 fun q_ q_ => Looks.of_pure rfl
 case hbody =>
  intro env hS hCd hQl; dsimp only at hS hCd hQl
  exact (Ex.cons (Es.for (SrcE.of (Ev.call (gB (g_range _) (kind_of hS rfl)) (EvA.args (EvL.cons (Ev.bin (Ev.call (gB (g_len _) (kind_of hS rfl)) (EvA.args (EvL.cons (Ev.loc rfl) EvL.nil)) (Fn.len Lsy.lst (by rw [rowV_len]; lia)) Kp.blt) Ev.int (Bin.subE (r := 5) (by rw [rowV_len, h6]; rfl))) EvL.nil)) Fn.range1 Kp.typ) (Src.rng (a := 0) (b := 5) (by decide) (by decide) (by decide) (by decide))) rfl (Fo.runsN 5 (by rfl) (fun i => [("row", .lst (rowV (rowN rw i))), ("tree", .sem (instA 247 j))]) (fun i => (H.set ia (.list (pairsV (prsN rw i))))) (subs_cons rfl (subs_cons rfl subs_nil)) (set_self hi) (fun q_ q_ => trivial) (fun i v hv => by
  obtain ⟨hi5, rfl⟩ := rng_at hv
  have hi5 : i < 5 := hi5
  have hlen := rowN_len (m := 5) h6 i (by exact Nat.le_of_lt (by assumption))
  have h6' : (rowN rw i).length ≤ 6 := Nat.le_trans (Nat.le_add_right _ _) (Nat.le_of_eq hlen)
  have h2 : 2 ≤ (wsR (rowN rw i)).length := by rw [List.length_map]; lia
  have hat := (at_ok h2).1
  rw [List.length_map] at hat
  have hpa := plF_le h2
  obtain ⟨ev, od, e1, o1, e2, e3, o2, o3, hpl⟩ := place_two h2
  have ta : (trR (rowN rw i) (atF (wsR (rowN rw i)))).top < 300 := Nat.lt_trans (rowN_top htop i _ (trR_mem (by exact Nat.le_of_lt (by assumption)))) (by lia)
  have tb : (trR (rowN rw i) ((atF (wsR (rowN rw i))) + 1)).top < 300 := Nat.lt_trans (rowN_top htop i _ (trR_mem (by omega))) (by omega)
  exact Turn.mk (Ast.name (.inr ⟨(il hS rfl), rfl⟩)) (exEq (by rw [set_set, pairs_app]; rfl) (Ex.cons (Es.assign (Ev.sub (Ev.compS hS (SrcE.of (Ev.call (gB (g_range _) (kind_of hS rfl)) (EvA.args (EvL.cons (Ev.bin (Ev.call (gB (g_len _) (kind_of hS rfl)) (EvA.args (EvL.cons (Ev.loc rfl) EvL.nil)) (Fn.len Lsy.lst (by rw [rowV_len]; lia)) Kp.blt) Ev.int (Bin.subE (r := (((rowN rw i).length - 1 : Nat) : Int)) (by rw [rowV_len]; lia))) EvL.nil)) Fn.range1 Kp.typ) (Src.rng (a := 0) (b := (((rowN rw i).length - 1 : Nat) : Int)) (by decide) (by decide) (by exact Int.ofNat_nonneg _) (by omega))) rfl (fun q_ => trivial) (by kernel_rfl) (fun cenv hC1 => (by rw [rng0]; exact Co.pick (f := nI) (p := askF (wsR (rowN rw i))) (g := nI) (fun k hk => ⟨_, (fun K => (Ast.name (.inl ⟨kind_of hC1 rfl, rfl⟩))), (fun K => (TstL.one (by
   have hk := List.mem_range.mp hk
   rcases ask_or (ws := (wsR (rowN rw i))) (k := k) with ⟨z1, z⟩ | ⟨z1, z2, z⟩ | ⟨z1, z2, z⟩
   ·rw [List.length_map] at z1
    exact Tst.eqb (Tst.boolOp (BoT.stop (Tst.eqb (Tst.cmp (Ev.bin (Ev.loc rfl) Ev.int (Bin.addE (r := ((k + 2 : Nat) : Int)) rfl)) (Ev.call (gB (g_len _) (kind_of hC1 rfl)) (EvA.args (EvL.cons (Ev.loc rfl) EvL.nil)) (Fn.len Lsy.lst (by rw [rowV_len]; lia)) Kp.blt) Cmp.eqI) (by rw [rowV_len]; exact decide_eq_true (by lia))))) z.symm
   ·rw [List.length_map] at z1
    exact Tst.eqb (Tst.boolOp (BoT.nextb (Tst.cmp (Ev.bin (Ev.loc rfl) Ev.int (Bin.addE (r := ((k + 2 : Nat) : Int)) rfl)) (Ev.call (gB (g_len _) (kind_of hC1 rfl)) (EvA.args (EvL.cons (Ev.loc rfl) EvL.nil)) (Fn.len Lsy.lst (by rw [rowV_len]; lia)) Kp.blt) Cmp.eqI) (by rw [rowV_len]; exact decide_eq_false (by lia)) (BoT.stop (Tst.eqb (Tst.cmp (Ev.sub (Ev.sub (Ev.loc rfl) (Ev.loc rfl) (Itm.lst Lsy.lst (Int.natCast_nonneg _) (by omega) (rowV_atI (by lia)) (fun q_ q_ => rfl))) Ev.int (Itm.tup (j := 0) (by decide) (by decide) rfl rfl (fun q_ q_ => rfl))) (Ev.sub (Ev.sub (Ev.loc rfl) (Ev.bin (Ev.loc rfl) Ev.int (Bin.addE (r := ((k + 2 : Nat) : Int)) rfl)) (Itm.lst Lsy.lst (Int.natCast_nonneg _) (by omega) (rowV_atI (by lia)) (fun q_ q_ => rfl))) Ev.int (Itm.tup (j := 0) (by decide) (by decide) rfl rfl (fun q_ q_ => rfl))) Cmp.leI) (decide_eq_true (Int.ofNat_le.mpr z2)))))) z.symm
   ·rw [List.length_map] at z1
    exact Tst.eqb (Tst.boolOp (BoT.nextb (Tst.cmp (Ev.bin (Ev.loc rfl) Ev.int (Bin.addE (r := ((k + 2 : Nat) : Int)) rfl)) (Ev.call (gB (g_len _) (kind_of hC1 rfl)) (EvA.args (EvL.cons (Ev.loc rfl) EvL.nil)) (Fn.len Lsy.lst (by rw [rowV_len]; omega)) Kp.blt) Cmp.eqI) (by rw [rowV_len]; exact decide_eq_false (by omega)) (BoT.nextb (Tst.cmp (Ev.sub (Ev.sub (Ev.loc rfl) (Ev.loc rfl) (Itm.lst Lsy.lst (Int.natCast_nonneg _) (by omega) (rowV_atI (by omega)) (fun q_ q_ => rfl))) Ev.int (Itm.tup (j := 0) (by decide) (by decide) rfl rfl (fun q_ q_ => rfl))) (Ev.sub (Ev.sub (Ev.loc rfl) (Ev.bin (Ev.loc rfl) Ev.int (Bin.addE (r := ((k + 2 : Nat) : Int)) rfl)) (Itm.lst Lsy.lst (Int.natCast_nonneg _) (by omega) (rowV_atI (by omega)) (fun q_ q_ => rfl))) Ev.int (Itm.tup (j := 0) (by decide) (by decide) rfl rfl (fun q_ q_ => rfl))) Cmp.leI) (decide_eq_false (fun zz => z2 (Int.ofNat_le.mp zz))) BoT.nil))) z.symm))), (fun q_ => ⟨(fun K => (Ev.loc rfl)), rfl⟩), (sub_cons rfl)⟩))) (by rw [rng0, List.length_map, List.length_range, sizeLine_eq]; lia) (fun q_ q_ => rfl) (Nat.le_refl _)) Ev.int (Itm.lst (v := nI (atF (wsR (rowN rw i)))) Lsy.lst (by decide) (by decide) (by show (List.map nI _)[0]? = _; rw [List.getElem?_map, show (rowN rw i).length = (wsR (rowN rw i)).length from (List.length_map ..).symm, at_first h2]; rfl) (fun q_ q_ => rfl))) (il hS rfl) rfl)
 (Ex.cons (Es.assignS (Ev.tup (EvL.cons (Ev.bin (Ev.sub (Ev.sub (Ev.loc rfl) (Ev.loc rfl) (Itm.lst Lsy.lst (Int.natCast_nonneg _) (by omega) (rowV_atI (by omega)) (fun q_ q_ => rfl))) Ev.int (Itm.tup (j := 0) (by decide) (by decide) rfl rfl (fun q_ q_ => rfl))) (Ev.sub (Ev.sub (Ev.loc rfl) (Ev.bin (Ev.loc rfl) Ev.int (Bin.addE (r := (((atF (wsR (rowN rw i))) + 1 : Nat) : Int)) rfl)) (Itm.lst Lsy.lst (Int.natCast_nonneg _) (by omega) (rowV_atI (by omega)) (fun q_ q_ => rfl))) Ev.int (Itm.tup (j := 0) (by decide) (by decide) rfl rfl (fun q_ q_ => rfl))) (Bin.addE (r := ((twoF (wsR (rowN rw i)) : Nat) : Int)) rfl)) (EvL.cons (Ev.bin Ev.int (Ev.call (gB (g_len _) (kind_of hS rfl)) (EvA.args (EvL.cons (Ev.hdr (hm_keys _) (Ev.loc rfl) (set_ne hj hi) EvA.nil ((fn_keys c _ (set_ne hj hi) (set_at hi) (by rw [prsN_len]; lia)).le (by decide)) rfl rfl) EvL.nil)) (Fn.len Lsy.lst (by rw [List.length_map, prsN_len]; lia)) Kp.blt) (Bin.addE (r := ((256 + i : Nat) : Int)) (by rw [List.length_map, prsN_len]; rfl))) EvL.nil))) rfl (stos_cons (il hS rfl) (stos_cons (il hS rfl) stos_nil)) (sw_of hS (by intro e he; cases e; dsimp only at he; subst he; rfl)) (ss_of hS (by intro e he; cases e; dsimp only at he; subst he; rfl)))
 (Ex.cons (Es.assign (Ev.call (gV (g_bisect_right _) (kind_of hS rfl)) (EvA.kw (kv := [("key", _)]) (EvL.cons (Ev.sliceL (Ev.loc rfl) EvP.none EvP.none (EvP.some Ev.int) Lsy.lst (by decide) (by rw [rowV_len, sizeLine_eq]; lia) (fun q_ q_ => ⟨_, rfl⟩)) (EvL.cons (Ev.una (Ev.loc rfl) Una.neg) (EvL.cons Ev.int (EvL.cons (Ev.bin (Ev.bin (Ev.loc rfl) Ev.int (Bin.addE (r := (((atF (wsR (rowN rw i))) + 1 : Nat) : Int)) rfl)) Ev.int Bin.halfN) EvL.nil)))) (EvK.cons (Ev.lam0 (set_ne hT hi) hCd (by rw [hQl]; decide) (hd_grown c) b1 b2 b3 b4 b5 b6 rfl rfl) EvK.nil) (fun q_ => rfl) (fun q_ => rfl) (fun q_ => rfl)) ((fn_bisR (n := 2) (lo := 0) (hi := ((atF (wsR (rowN rw i))) + 1) / 2) (r := ev) (lt := fun m => decide (-((twoF (wsR (rowN rw i)) : Nat) : Int) < -(((wsR (rowN rw i)).getD (2 * m) 0 : Nat) : Int))) c _ Lsy.lst (by rw [(pick_even _).1, rowV_len]; lia) kp_lam lam_some (by rw [(pick_even _).1, rowV_len]; lia) (Nat.zero_le _) e1 (fun m v hv q1 q2 => by
    obtain rfl := even_at hv (by lia)
    exact ⟨_, (Fn.lam (n := 1) (ns := ["pair"]) rfl (by decide) (fun clos pm cd ctv xs hxs => by obtain ⟨x, rfl⟩ := List.length_eq_one_iff.mp hxs; rfl) (fun lenv hL => (Ev.una (Ev.sub (Ev.loc rfl) Ev.int (Itm.tup (j := 0) (by decide) (by decide) rfl rfl (fun q_ q_ => rfl))) Una.neg))), Cmp.ltI⟩) (fun m q1 q2 => decide_eq_false (by have := e2 m q2; lia)) (fun m q1 q2 => decide_eq_true (by have := e3 m q1 q2; lia))).le (by decide)) (kp_bisect_right _)) (il hS rfl) rfl)
 (Ex.cons (Es.assign (Ev.call (gV (g_bisect_left _) (kind_of hS rfl)) (EvA.kw (kv := [("key", _)]) (EvL.cons (Ev.sliceL (Ev.loc rfl) (EvP.some Ev.int) EvP.none (EvP.some Ev.int) Lsy.lst (by decide) (by rw [rowV_len, sizeLine_eq]; omega) (fun q_ q_ => ⟨_, rfl⟩)) (EvL.cons (Ev.bin Ev.int (Ev.loc rfl) Bin.sub) (EvL.cons Ev.int (EvL.cons (Ev.bin (Ev.loc rfl) Ev.int Bin.halfN) EvL.nil)))) (EvK.cons (Ev.lam0 (set_ne hT hi) hCd (by rw [hQl]; decide) (hd_grown c) b1 b2 b3 b4 b5 b6 rfl rfl) EvK.nil) (fun q_ => rfl) (fun q_ => rfl) (fun q_ => rfl)) ((fn_bisL (n := 2) (lo := 0) (hi := (atF (wsR (rowN rw i))) / 2) (r := od) (lt := fun m => decide (-(((wsR (rowN rw i)).getD (2 * m + 1) 0 : Nat) : Int) < 1 - ((twoF (wsR (rowN rw i)) : Nat) : Int))) c _ Lsy.lst (by rw [(pick_odd _).1, rowV_len]; lia) kp_lam lam_some (by rw [(pick_odd _).1, rowV_len]; lia) (Nat.zero_le _) o1 (fun m v hv q1 q2 => by
    obtain rfl := odd_at hv (by lia)
    exact ⟨_, (Fn.lam (n := 1) (ns := ["pair"]) rfl (by decide) (fun clos pm cd ctv xs hxs => by obtain ⟨x, rfl⟩ := List.length_eq_one_iff.mp hxs; rfl) (fun lenv hL => (Ev.una (Ev.sub (Ev.loc rfl) Ev.int (Itm.tup (j := 0) (by decide) (by decide) rfl rfl (fun q_ q_ => rfl))) Una.neg))), Cmp.ltI⟩) (fun m q1 q2 => decide_eq_true (by have := o2 m q2; lia)) (fun m q1 q2 => decide_eq_false (by have := o3 m q1 q2; lia))).le (by decide)) (kp_bisect_left _)) (il hS rfl) rfl)
 (Ex.cons (Es.assign (Ev.call (gB (g_max _) (kind_of hS rfl)) (EvA.args (EvL.cons (Ev.bin (Ev.bin Ev.int (Ev.loc rfl) (Bin.mul (mulOk (by decide)))) Ev.int Bin.sub) (EvL.cons (Ev.bin Ev.int (Ev.loc rfl) (Bin.mul (mulOk (by decide)))) EvL.nil))) (Fn.max2 hpl) Kp.blt) (il hS rfl) rfl)
 (Ex.cons (Es.expr (Ev.hdr (hm_add_header _) (Ev.loc rfl) (set_ne hj hi) (EvA.args (EvL.cons (Ev.call (gB (g_str _) (kind_of hS rfl)) (EvA.args (EvL.cons (Ev.loc rfl) EvL.nil)) (Fn.strN (a := 256 + i) (by omega)) Kp.typ) (EvL.cons (Ev.bin (Ev.bin (Ev.call (gB (g_str _) (kind_of hS rfl)) (EvA.args (EvL.cons (Ev.sub (Ev.sub (Ev.loc rfl) (Ev.loc rfl) (Itm.lst Lsy.lst (Int.natCast_nonneg _) (by omega) (rowV_atI (by omega)) (fun q_ q_ => rfl))) Ev.int (Itm.tup (j := 1) (by decide) (by decide) rfl rfl (fun q_ q_ => rfl))) EvL.nil)) (Fn.strN ta) Kp.typ) Ev.str (Bin.addS (Nat.le_trans (Nat.add_le_add_right (num_len ta) _) (by decide)))) (Ev.call (gB (g_str _) (kind_of hS rfl)) (EvA.args (EvL.cons (Ev.sub (Ev.sub (Ev.loc rfl) (Ev.bin (Ev.loc rfl) Ev.int (Bin.addE (r := (((atF (wsR (rowN rw i))) + 1 : Nat) : Int)) rfl)) (Itm.lst Lsy.lst (Int.natCast_nonneg _) (by omega) (rowV_atI (by omega)) (fun q_ q_ => rfl))) Ev.int (Itm.tup (j := 1) (by decide) (by decide) rfl rfl (fun q_ q_ => rfl))) EvL.nil)) (Fn.strN tb) Kp.typ) (Bin.addS (Nat.le_trans (two_lenS ta tb) (by decide)))) EvL.nil))) ((fn_add c _ (set_ne hj hi) (set_at hi) (Nat.lt_of_le_of_lt (Nat.le_of_eq (by unfold pairsV; rw [List.length_map, prsN_len])) (by lia)) (plain_num (a := 256 + i) (by omega)) (plain_two ta tb)).le (by decide)) rfl rfl) (in_of hS (by intro e he; cases e; dsimp only at he; subst he; rfl)) rfl)
 (Ex.one (Es.assign (Ev.eqv (Ev.bin (Ev.bin (Ev.bin (Ev.eqv (Ev.sliceL (Ev.loc rfl) EvP.none (EvP.some (Ev.loc rfl)) EvP.none Lsy.lst (by decide) (by rw [rowV_len, sizeLine_eq]; omega) (fun q_ q_ => ⟨_, rfl⟩)) (congrArg V.lst (pick_upto _ _))) (Ev.lst (EvL.cons (Ev.tup (EvL.cons (Ev.loc rfl) (EvL.cons (Ev.loc rfl) EvL.nil))) EvL.nil)) (Bin.addL Lsy.lst Lsy.lst (by simp only [List.length_append, List.length_take, List.length_drop, List.length_cons, List.length_nil, rowV_len, sizeLine_eq]; exact add1_le h6' _))) (Ev.eqv (Ev.sliceL (Ev.loc rfl) (EvP.some (Ev.loc rfl)) (EvP.some (Ev.loc rfl)) EvP.none Lsy.lst (by decide) (by rw [rowV_len, sizeLine_eq]; omega) (fun q_ q_ => ⟨_, rfl⟩)) (congrArg V.lst (pick_mid _ _ _))) (Bin.addL Lsy.lst Lsy.lst (by simp only [List.length_append, List.length_take, List.length_drop, List.length_cons, List.length_nil, rowV_len, sizeLine_eq]; exact add2_le h6' _ _ _))) (Ev.eqv (Ev.sliceL (Ev.loc rfl) (EvP.some (Ev.bin (Ev.loc rfl) Ev.int (Bin.addE (r := (((atF (wsR (rowN rw i))) + 2 : Nat) : Int)) rfl))) EvP.none EvP.none Lsy.lst (by decide) (by rw [rowV_len, sizeLine_eq]; omega) (fun q_ q_ => ⟨_, rfl⟩)) (congrArg V.lst (pick_from _ _))) (Bin.addL Lsy.lst Lsy.lst (by simp only [List.length_append, List.length_take, List.length_drop, List.length_cons, List.length_nil, rowV_len, sizeLine_eq]; exact add3_le h6' _ _ _ _))) (congrArg V.lst row_next)) (.inr (kind_of hS rfl)) rfl))))))))) (subs_cons rfl (subs_cons rfl subs_nil)))) (fun q_ q_ => rfl))
 (Ex.stop (Es.ret (Ev.sub (Ev.sub (Ev.loc rfl) Ev.int (Itm.lst Lsy.lst (by decide) (by decide) (rowV_at (k := 0) (by have := rowN_len (m := 5) h6 5 (by decide); omega)) (fun q_ q_ => rfl))) Ev.int (Itm.tup (j := 1) (by decide) (by decide) rfl rfl (fun q_ q_ => rfl)))) (by intro _ _ h; cases h)))
 case hfin => first | exact Fin.ret | exact Fin.next
noncomputable def depsR (r : List (Nat × Tr)) (d : List Nat) : List (Int × Int) := (r.zip d).flatMap fun x => x.1.2.deps x.2
theorem depsR_app {r1 r2 : List (Nat × Tr)} {d1 d2 : List Nat} (h : r1.length = d1.length) : depsR (r1 ++ r2) (d1 ++ d2) = depsR r1 d1 ++ depsR r2 d2 := by
 unfold depsR; rw [List.zip_append h, List.flatMap_append]
theorem depsR_cons (q : Nat × Tr) (r : List (Nat × Tr)) (x : Nat) (d : List Nat) : depsR (q :: r) (x :: d) = q.2.deps x ++ depsR r d := rfl
theorem gw_len {f : Nat} : ∀ {w : List Nat}, 1 ≤ w.length → w.length ≤ f + 1 → w.length ≤ 6 → (gwF f w).length = w.length := fun h1 h2 h3 => trees_len h1 (Nat.le_refl _) (gw_best h1 h2 h3).1
theorem trR_drop {rw' : List (Nat × Tr)} {k : Nat} (h : k < rw'.length) : ∃ w, rw'.drop k = (w, trR rw' k) :: rw'.drop (k + 1) := by
 refine ⟨rw'[k].1, ?_⟩
 rw [List.drop_eq_getElem_cons h]
 unfold trR
 rw [List.getD_eq_getElem?_getD, List.getElem?_eq_getElem h]; rfl
theorem deps_step {i : Nat} {r : List (Nat × Tr)} {d' : List Nat} (h2 : 2 ≤ r.length) (hd : d'.length + 1 = r.length) : (depsR (stepR i r) d').Perm (depsR r (back (atF (wsR r)) (plF (wsR r)) d')) := by
 have h2' : 2 ≤ (wsR r).length := by rw [List.length_map]; exact h2
 have ha := (at_ok h2').1
 rw [List.length_map] at ha
 have hp := plF_le h2'
 unfold stepR back
 generalize atF (wsR r) = a at *
 generalize plF (wsR r) = p at *
 have hpd : p < d'.length := by lia
 obtain ⟨wa, ea⟩ := trR_drop (rw' := r) (k := a) (by exact Nat.le_of_lt (by assumption))
 obtain ⟨wb, eb⟩ := trR_drop (rw' := r) (k := a + 1) ha
 have ed : d' = d'.take p ++ (d'.getD p 0 :: ((d'.drop (p + 1)).take (a - p) ++ d'.drop (a + 1))) := by
  rw [show d'.drop (a + 1) = (d'.drop (p + 1)).drop (a - p) from by rw [List.drop_drop]; congr 1; lia, List.take_append_drop, ← getD_drop d' hpd, List.take_append_drop]
 have er : r = r.take p ++ ((r.drop p).take (a - p) ++ ((wa, trR r a) :: (wb, trR r (a + 1)) :: r.drop (a + 2))) := by
  rw [← eb, ← ea, show r.drop a = (r.drop p).drop (a - p) from by rw [List.drop_drop]; congr 1; lia, List.take_append_drop, List.take_append_drop]
 have l1 : (r.take p).length = (d'.take p).length := by rw [List.length_take, List.length_take]; lia
 have l2 : ((r.drop p).take (a - p)).length = ((d'.drop (p + 1)).take (a - p)).length := by rw [List.length_take, List.length_take, List.length_drop, List.length_drop]; lia
 have e1 : ∀ w s, depsR (r.take p ++ ((w, Tr.node s (trR r a) (trR r (a + 1))) :: ((r.drop p).take (a - p) ++ r.drop (a + 2)))) d' = depsR (r.take p) (d'.take p) ++ (((trR r a).deps (d'.getD p 0 + 1) ++ (trR r (a + 1)).deps (d'.getD p 0 + 1)) ++ (depsR ((r.drop p).take (a - p)) ((d'.drop (p + 1)).take (a - p)) ++ depsR (r.drop (a + 2)) (d'.drop (a + 1)))) := fun w s => by
  refine (congrArg (depsR _) ed).trans ?_
  rw [depsR_app l1, depsR_cons, depsR_app l2]; rfl
 have e2 : depsR r (d'.take p ++ ((d'.drop (p + 1)).take (a - p) ++ ((d'.getD p 0 + 1) :: (d'.getD p 0 + 1) :: d'.drop (a + 1)))) = depsR (r.take p) (d'.take p) ++ (depsR ((r.drop p).take (a - p)) ((d'.drop (p + 1)).take (a - p)) ++ (((trR r a).deps (d'.getD p 0 + 1) ++ (trR r (a + 1)).deps (d'.getD p 0 + 1)) ++ depsR (r.drop (a + 2)) (d'.drop (a + 1)))) := by
  refine (congrArg (depsR · _) er).trans ?_
  rw [depsR_app l1, depsR_app l2, depsR_cons, depsR_cons, List.append_assoc]
 rw [e1, e2]
 refine List.Perm.append_left _ ?_
 rw [← List.append_assoc, ← List.append_assoc]
 exact List.Perm.append_right _ List.perm_append_comm
theorem deps_all {m : Nat} : ∀ {i : Nat} {r : List (Nat × Tr)}, r.length = m + 1 → m ≤ 5 → ∃ w : Nat, ∃ T : Tr, (∀ rw', rowN rw' i = r → rowN rw' (i + m) = [(w, T)]) ∧ (T.deps 0).Perm (depsR r (gwF m (wsR r))) := by
 induction m with
 | zero =>
  intro i r h _
  match r, h with
  | [(w, T)], _ =>
   refine ⟨w, T, fun rw' e => e, ?_⟩
   show (T.deps 0).Perm (T.deps 0 ++ [])
   rw [List.append_nil]
 | succ m ih =>
  intro i r h hm
  have hs := step_len (i := i) (rw := r) (by lia)
  obtain ⟨w, T, h1, h2⟩ := ih (i := i + 1) (r := stepR i r) (by lia) (by exact Nat.le_of_lt (by assumption))
  refine ⟨w, T, fun rw' e => ?_, h2.trans ?_⟩
  ·rw [show i + (m + 1) = i + 1 + m from by lia]
   exact h1 rw' (by show stepR i (rowN rw' i) = _; rw [e])
  ·have e : gwF (m + 1) (wsR r) = back (atF (wsR r)) (plF (wsR r)) (gwF m (wsR (stepR i r))) := by
    rw [wsR_step]
    exact if_neg (by rw [List.length_map]; lia)
   rw [e]
   exact deps_step (by lia) (by rw [gw_len (by rw [List.length_map]; lia) (by rw [List.length_map]; lia) (by rw [List.length_map]; lia), List.length_map]; exact hs)
theorem deps_top {r : List (Nat × Tr)} (h : r.length = 6) : ((trR (rowN r 5) 0).deps 0).Perm (depsR r (gwF 5 (wsR r))) ∧ (rowN r 5) = [((rowN r 5).headD (0, .leaf 0) |>.1, trR (rowN r 5) 0)] := by
 obtain ⟨w, T, h1, h2⟩ := deps_all (m := 5) (i := 0) (r := r) h (by decide)
 have e := h1 r rfl
 rw [show 0 + 5 = 5 from rfl] at e
 have e2 : trR (rowN r 5) 0 = T := by rw [e]; rfl
 rw [e2]
 exact ⟨h2, by rw [e]; rfl⟩
noncomputable def sizesR (r : List (Nat × Tr)) : Nat := (r.map fun q => q.2.size).sum
theorem sizes_app (a b : List (Nat × Tr)) : sizesR (a ++ b) = sizesR a + sizesR b := by unfold sizesR; rw [List.map_append, List.sum_append]
theorem sizes_cons (q : Nat × Tr) (b : List (Nat × Tr)) : sizesR (q :: b) = q.2.size + sizesR b := by unfold sizesR; rw [List.map_cons, List.sum_cons]
theorem sizes_step {i : Nat} {r : List (Nat × Tr)} (h2 : 2 ≤ r.length) : sizesR (stepR i r) = sizesR r + 1 := by
 have h2' : 2 ≤ (wsR r).length := by rw [List.length_map]; exact h2
 have ha := (at_ok h2').1
 rw [List.length_map] at ha
 have hp := plF_le h2'
 unfold stepR
 generalize atF (wsR r) = a at *
 generalize plF (wsR r) = p at *
 obtain ⟨wa, ea⟩ := trR_drop (rw' := r) (k := a) (by exact Nat.le_of_lt (by assumption))
 obtain ⟨wb, eb⟩ := trR_drop (rw' := r) (k := a + 1) ha
 have er : r = r.take p ++ ((r.drop p).take (a - p) ++ ((wa, trR r a) :: (wb, trR r (a + 1)) :: r.drop (a + 2))) := by
  rw [← eb, ← ea, show r.drop a = (r.drop p).drop (a - p) from by rw [List.drop_drop]; congr 1; lia, List.take_append_drop, List.take_append_drop]
 have e2 : sizesR r = sizesR (r.take p) + (sizesR ((r.drop p).take (a - p)) + ((trR r a).size + ((trR r (a + 1)).size + sizesR (r.drop (a + 2))))) := by
  refine (congrArg sizesR er).trans ?_
  rw [sizes_app, sizes_app, sizes_cons, sizes_cons]
 rw [e2, sizes_app, sizes_cons, sizes_app]
 show _ + ((1 + (trR r a).size + (trR r (a + 1)).size) + _) = _
 lia
theorem sizes_row {r : List (Nat × Tr)} (h : r.length = 6) (h0 : sizesR r = 6) : ∀ i, i ≤ 5 → sizesR (rowN r i) = 6 + i
 | 0, _ => h0
 | i + 1, hi => by
  have := rowN_len (m := 5) h i (by exact Nat.le_of_lt (by assumption))
  show sizesR (stepR i (rowN r i)) = _
  rw [sizes_step (by lia), sizes_row h h0 i (by exact Nat.le_of_lt (by assumption))]; rfl
theorem In_mono {P Q : List (Str × Str)} : ∀ {T : Tr}, T.In P → T.In (P ++ Q)
 | .leaf s, h => h
 | .node s l r, h => by
  have h : 256 ≤ s ∧ s < 300 ∧ l.top < 300 ∧ r.top < 300 ∧ P.find? (isK (numS s)) = some (numS s, two l.top r.top) ∧ l.In P ∧ r.In P := h
  exact ⟨h.1, h.2.1, h.2.2.1, h.2.2.2.1, by rw [List.find?_append, h.2.2.2.2.1]; rfl, In_mono h.2.2.2.2.2.1, In_mono h.2.2.2.2.2.2⟩
theorem isK_num {a b : Nat} (ha : 250 ≤ a) (ha' : a < 300) (hb : 250 ≤ b) (hb' : b < 300) {y : Str} : isK (numS a) (numS b, y) = decide (b = a) := by
 unfold isK
 rw [show low (numS b, y).1 = numS b from low_num hb hb', low_num ha ha']
 exact decide_eq_decide.mpr ⟨fun h => num_inj hb' ha' h, fun h => by rw [h]⟩
theorem prs_names {r : List (Nat × Tr)} : ∀ i, ∀ q ∈ prsN r i, ∃ j, j < i ∧ ∃ y, q = (numS (256 + j), y)
 | 0, q, m => nomatch m
 | i + 1, q, m => by
  rcases List.mem_append.mp (show q ∈ prsN r i ++ [pairR i (rowN r i)] from m) with m | m
  ·obtain ⟨j, hj, y, e⟩ := prs_names i q m
   exact ⟨j, Nat.lt_succ_of_lt hj, y, e⟩
  ·obtain rfl := List.mem_singleton.mp m
   exact ⟨i, Nat.lt_succ_self _, _, rfl⟩
theorem row_In {r : List (Nat × Tr)} (h6 : r.length = 6) (htop : ∀ q ∈ r, q.2.top < 256) (h : ∀ q ∈ r, q.2.In []) : ∀ i, i ≤ 5 → ∀ q ∈ rowN r i, q.2.In (prsN r i)
 | 0, _, q, m => h q m
 | i + 1, hi, q, m => by
  have ih := row_In h6 htop h i (by omega)
  have hl := rowN_len (m := 5) h6 i (by omega)
  have h2 : 2 ≤ (wsR (rowN r i)).length := by rw [List.length_map]; omega
  have hat := (at_ok h2).1
  rw [List.length_map] at hat
  have m : q ∈ stepR i (rowN r i) := m
  show q.2.In (prsN r i ++ [pairR i (rowN r i)])
  unfold stepR at m
  rcases List.mem_append.mp m with m | m
  ·exact In_mono (ih q (List.mem_of_mem_take m))
  ·rcases List.mem_cons.mp m with rfl | m
   ·have ma := trR_mem (rw := rowN r i) (k := atF (wsR (rowN r i))) (by exact Nat.le_of_lt (by assumption))
    have mb := trR_mem (rw := rowN r i) (k := atF (wsR (rowN r i)) + 1) (by omega)
    have ta := rowN_top htop i _ ma
    have tb := rowN_top htop i _ mb
    refine ⟨Nat.le_add_right _ _, by lia, Nat.lt_trans ta (by omega), Nat.lt_trans tb (by omega), ?_, In_mono (ih _ ma), In_mono (ih _ mb)⟩
    rw [List.find?_append, List.find?_eq_none.mpr fun p mp => by
     obtain ⟨j, hj, y, rfl⟩ := prs_names i p mp
     rw [isK_num (by lia) (by lia) (by lia) (by lia), decide_eq_false (by lia)]; exact Bool.false_ne_true]
    show List.find? _ [pairR i (rowN r i)] = _
    unfold pairR
    rw [List.find?_cons, isK_num (by lia) (by omega) (by omega) (by omega), decide_eq_true rfl]
   ·rcases List.mem_append.mp m with m | m
    ·exact In_mono (ih q (mem_take_drop m))
    ·exact In_mono (ih q (List.mem_of_mem_drop m))
theorem prs_five (r : List (Nat × Tr)) : (prsN r 5).map (fun q => V.str q.1) = ((List.range 5).map fun k => numS (256 + k)).map V.str := rfl
noncomputable def szL (d : List Nat) : List Nat := d.map fun x => 64 / 2 ^ x
noncomputable def stL (d : List Nat) : List Nat := (List.range 6).map fun k => ((szL d).take k).sum
noncomputable def arcT (d : List Nat) : Bool := Nat.beq d.length 6 && ((d.all fun x => Nat.ble x 5) && ((List.range 6).all fun k =>
 Nat.beq ((stL d).getD k 0 % 2 ^ (6 - d.getD k 0)) 0 && (Nat.beq ((szL d).getD k 0) (2 ^ (6 - d.getD k 0)) && Nat.ble ((stL d).getD k 0 + 2 ^ (6 - d.getD k 0)) 64) && (if k = 5 then Nat.beq ((stL d).getD k 0 + 2 ^ (6 - d.getD k 0)) 64 else Nat.beq ((stL d).getD k 0 + 2 ^ (6 - d.getD k 0)) ((stL d).getD (k + 1) 0))))
theorem arc_all : ((trees 6).all arcT) = true := by decide +kernel
structure Arc (d : List Nat) : Prop where
 len : d.length = 6
 le : ∀ k, k < 6 → d.getD k 0 ≤ 5
 div : ∀ k, k < 6 → (stL d).getD k 0 % 2 ^ (6 - d.getD k 0) = 0
 size : ∀ k, k < 6 → (szL d).getD k 0 = 2 ^ (6 - d.getD k 0)
 lt : ∀ k, k < 6 → (stL d).getD k 0 + 2 ^ (6 - d.getD k 0) ≤ 64
 next : ∀ k, k < 5 → (stL d).getD k 0 + 2 ^ (6 - d.getD k 0) = (stL d).getD (k + 1) 0
 last : (stL d).getD 5 0 + 2 ^ (6 - d.getD 5 0) = 64
 zero : (stL d).getD 0 0 = 0
theorem arc_of {d : List Nat} (h : d ∈ trees 6) : Arc d := by
 have q := Bool.and_eq_true_iff.mp (List.all_eq_true.mp arc_all d h)
 have q2 := Bool.and_eq_true_iff.mp q.2
 have hl : d.length = 6 := Nat.eq_of_beq_eq_true q.1
 have at_ : ∀ k, k < 6 → _ := fun k hk => List.all_eq_true.mp q2.2 k (List.mem_range.mpr hk)
 refine ⟨hl, fun k hk => ?_, fun k hk => ?_, fun k hk => ?_, fun k hk => ?_, fun k hk => ?_, ?_, rfl⟩
 ·have := List.all_eq_true.mp q2.1 (d.getD k 0) (by rw [List.getD_eq_getElem?_getD, List.getElem?_eq_getElem (by rw [hl]; exact hk)]; exact List.getElem_mem _)
  exact Nat.le_of_ble_eq_true this
 ·exact Nat.eq_of_beq_eq_true (Bool.and_eq_true_iff.mp (Bool.and_eq_true_iff.mp (at_ k hk)).1).1
 ·exact Nat.eq_of_beq_eq_true (Bool.and_eq_true_iff.mp (Bool.and_eq_true_iff.mp (Bool.and_eq_true_iff.mp (at_ k hk)).1).2).1
 ·exact Nat.le_of_ble_eq_true (Bool.and_eq_true_iff.mp (Bool.and_eq_true_iff.mp (Bool.and_eq_true_iff.mp (at_ k hk)).1).2).2
 ·have := (Bool.and_eq_true_iff.mp (at_ k (by exact Nat.lt_succ_of_lt (by assumption)))).2
  rw [if_neg (by exact Nat.ne_of_lt (by assumption))] at this
  exact Nat.eq_of_beq_eq_true this
 ·have := (Bool.and_eq_true_iff.mp (at_ 5 (by exact Nat.lt_succ_self _))).2
  rw [if_pos rfl] at this
  exact Nat.eq_of_beq_eq_true this
theorem szL_len (d : List Nat) : (szL d).length = d.length := List.length_map ..
theorem stL_len (d : List Nat) : (stL d).length = 6 := by unfold stL; rw [List.length_map, List.length_range]
theorem arc_find {d : List Nat} (A : Arc d) {v : Nat} (hv : v < 64) : ∃ k, k < 6 ∧ (stL d).getD k 0 ≤ v ∧ v < (stL d).getD k 0 + 2 ^ (6 - d.getD k 0) ∧ (∀ j, j ≤ k → (stL d).getD j 0 ≤ v) ∧ ∀ j, k < j → j < 6 → v < (stL d).getD j 0 := by
 have up : ∀ n j, j + n < 6 → (stL d).getD j 0 ≤ (stL d).getD (j + n) 0 := by
  intro n
  induction n with
  | zero => intro j _; exact Nat.le_refl _
  | succ n ih =>
   intro j hj
   have h1 := ih j (by exact Nat.le_of_lt (by assumption))
   have h2 := A.next (j + n) (by exact Nat.le_of_lt_succ (by assumption))
   rw [show j + (n + 1) = j + n + 1 from rfl, ← h2]
   exact Nat.le_trans h1 (Nat.le_add_right _ _)
 have find : ∀ n, n ≤ 5 → (stL d).getD (5 - n) 0 ≤ v ∨ v < (stL d).getD (5 - n) 0 := fun n _ => Nat.lt_or_ge v _ |>.symm
 have go : ∀ m, m ≤ 5 → v < (stL d).getD m 0 + 2 ^ (6 - d.getD m 0) → ∃ k, k ≤ m ∧ (stL d).getD k 0 ≤ v ∧ v < (stL d).getD k 0 + 2 ^ (6 - d.getD k 0) := by
  intro m
  induction m with
  | zero => intro _ h; exact ⟨0, Nat.le_refl _, by rw [A.zero]; exact Nat.zero_le _, h⟩
  | succ m ih =>
   intro hm h
   by_cases q : (stL d).getD (m + 1) 0 ≤ v
   ·exact ⟨m + 1, Nat.le_refl _, q, h⟩
   ·obtain ⟨k, hk, h1, h2⟩ := ih (by exact Nat.le_of_lt (by assumption)) (by rw [A.next m (by assumption)]; exact Nat.lt_of_not_le (by assumption))
    exact ⟨k, Nat.le_succ_of_le hk, h1, h2⟩
 obtain ⟨k, hk, h1, h2⟩ := go 5 (Nat.le_refl _) (by rw [A.last]; exact hv)
 refine ⟨k, by exact Nat.succ_le_succ (by assumption), h1, h2, fun j hj => ?_, fun j hj hj6 => ?_⟩
 ·have := up (k - j) j (by omega)
  rw [show j + (k - j) = k from by lia] at this; exact Nat.le_trans (by assumption) (by assumption)
 ·have := up (j - (k + 1)) (k + 1) (by omega)
  rw [show k + 1 + (j - (k + 1)) = j from by omega] at this
  have := A.next k (by lia)
  lia
noncomputable def bitN (x m : Nat) : Nat := x / 2 ^ m % 2
theorem div_mod_pow {x a b : Nat} (h : b ≤ a) : x % 2 ^ a / 2 ^ b = x / 2 ^ b % 2 ^ (a - b) := by
 obtain ⟨c, rfl⟩ := Nat.exists_eq_add_of_le h
 rw [Nat.add_sub_cancel_left, Nat.pow_add, Nat.mod_mul_right_div_self]
theorem bit_mod {x a b : Nat} (h : b < a) : bitN (x % 2 ^ a) b = bitN x b := by
 unfold bitN
 rw [div_mod_pow (Nat.le_of_lt h)]
 obtain ⟨c, hc⟩ : ∃ c, a - b = c + 1 := ⟨a - b - 1, by lia⟩
 rw [hc, Nat.pow_succ, Nat.mul_comm, Nat.mod_mul_right_mod]
theorem bit_div {x a b : Nat} : bitN (x / 2 ^ a) b = bitN x (a + b) := by
 unfold bitN
 rw [Nat.div_div_eq_div_mul, ← Nat.pow_add]
theorem arc_bits {d : List Nat} (A : Arc d) {k v f : Nat} (hk : k < 6) (h1 : (stL d).getD k 0 ≤ v) (h2 : v < (stL d).getD k 0 + 2 ^ (6 - d.getD k 0)) (hf : f < d.getD k 0) : bitN ((stL d).getD k 0) (5 - f) = bitN v (5 - f) := by
 have hd := A.le k hk
 have hdv := A.div k hk
 generalize (stL d).getD k 0 = s at *
 generalize d.getD k 0 = e at *
 have e1 : s / 2 ^ (6 - e) = v / 2 ^ (6 - e) := by
  obtain ⟨m, rfl⟩ := Nat.dvd_of_mod_eq_zero hdv
  have hp : 0 < 2 ^ (6 - e) := Nat.pow_pos (by decide)
  rw [Nat.mul_div_cancel_left _ hp]
  exact (Nat.div_eq_of_lt_le (by rw [Nat.mul_comm]; exact h1) (by rw [Nat.add_mul, Nat.one_mul, Nat.mul_comm]; exact h2)).symm
 have e2 : 5 - f = (6 - e) + (e - 1 - f) := by lia
 rw [e2, ← bit_div, ← bit_div, e1]
structure Turned (x D place size : Nat) : Prop where
 le : D ≤ 18
 size : size = 2 ^ (18 - D)
 place : place + x % 2 ^ (18 - D) = x
theorem turn_ok {x D place size : Nat} (T : Turned x D place size) (hD : D ≤ 12) {d : List Nat} (A : Arc d) : ∃ k, k < 6 ∧ (∀ j, j ≤ k → (stL d).getD j 0 ≤ (x - place) * 64 / size) ∧ (∀ j, k < j → j < 6 → (x - place) * 64 / size < (stL d).getD j 0) ∧ place ≤ x ∧ 0 < size ∧ d.getD k 0 ≤ 5 ∧
  Turned x (D + d.getD k 0) (place + (stL d).getD k 0 * size / 64) (size * (szL d).getD k 0 / 64) ∧ ∀ f, f < d.getD k 0 → bitN ((stL d).getD k 0) (5 - f) = bitN x (17 - (D + f)) := by
 obtain ⟨m, hm⟩ : ∃ m, 18 - D = m + 6 := ⟨12 - D, by lia⟩
 have hs : size = 2 ^ m * 64 := by rw [T.size, hm, Nat.pow_add]
 have hx : x - place = x % 2 ^ (m + 6) := by have := T.place; rw [hm] at this; lia
 have hpl : place ≤ x := by have := T.place; lia
 have hp : 0 < 2 ^ m := Nat.pow_pos (by decide)
 have hv : (x - place) * 64 / size = x / 2 ^ m % 2 ^ 6 := by
  rw [hs, Nat.mul_div_mul_right _ _ (by decide), hx, div_mod_pow (Nat.le_add_right _ _), Nat.add_sub_cancel_left]
 have hv64 : (x - place) * 64 / size < 64 := by rw [hv]; exact Nat.mod_lt _ (by decide)
 obtain ⟨k, hk, h1, h2, h3, h4⟩ := arc_find A hv64
 have hdk := A.le k hk
 refine ⟨k, hk, h3, h4, hpl, by rw [hs]; lia, hdk, ⟨by lia, ?_, ?_⟩, fun f hf => ?_⟩
 ·rw [hs, A.size k hk, show 2 ^ m * 64 * 2 ^ (6 - d.getD k 0) = (2 ^ m * 2 ^ (6 - d.getD k 0)) * 64 from by rw [Nat.mul_assoc, Nat.mul_assoc, Nat.mul_comm 64], Nat.mul_div_cancel _ (by decide), ← Nat.pow_add]
  congr 1; lia
 ·have hdv := A.div k hk
  rw [hv] at h1 h2
  rw [hs, ← Nat.mul_assoc, Nat.mul_div_cancel _ (by decide)]
  have T3 := T.place
  rw [hm] at T3
  generalize (stL d).getD k 0 = s at *
  generalize d.getD k 0 = e at *
  rw [show 18 - (D + e) = m + (6 - e) from by lia]
  have e1 : x % 2 ^ (m + 6) = 2 ^ m * (x / 2 ^ m % 2 ^ 6) + x % 2 ^ m := by
   rw [Nat.pow_add, Nat.mod_mul, Nat.add_comm]
  have e2 : x % 2 ^ (m + (6 - e)) = 2 ^ m * (x / 2 ^ m % 2 ^ (6 - e)) + x % 2 ^ m := by
   rw [Nat.pow_add, Nat.mod_mul, Nat.add_comm]
  have e3 : x / 2 ^ m % 2 ^ 6 = s + x / 2 ^ m % 2 ^ (6 - e) := by
   have z : x / 2 ^ m % 2 ^ 6 % 2 ^ (6 - e) = x / 2 ^ m % 2 ^ (6 - e) := Nat.mod_mod_of_dvd _ (Nat.pow_dvd_pow 2 (by exact Nat.sub_le _ _))
   obtain ⟨q, rfl⟩ := Nat.dvd_of_mod_eq_zero hdv
   rw [← z]
   generalize x / 2 ^ m % 2 ^ 6 = v at *
   have y : v = 2 ^ (6 - e) * q + (v - 2 ^ (6 - e) * q) := by omega
   have y2 : v % 2 ^ (6 - e) = v - 2 ^ (6 - e) * q := by
    rw [y, Nat.mul_add_mod, Nat.mod_eq_of_lt (by lia)]; lia
   lia
  rw [e1, e3, Nat.mul_add] at T3
  rw [e2, Nat.mul_comm s]; lia
 ·rw [arc_bits A hk h1 h2 hf, hv, bit_mod (by omega), bit_div]
  congr 1; lia
section
theorem compTurn_in (elt t0 i0 t1 i1 : PySem.Expr) (ifs : List PySem.Expr) (scope : Scope) (pos : Pos) (it acc : Value) (env : Env) :
  compTurn (.ListComp elt [⟨t0, i0, [], 0⟩, ⟨t1, i1, ifs, 0⟩] scope pos) 1 it acc env = (do
   standAt i1.pos
   match ← pyNext it with
   | none => pure (.done .next)
   | some v =>
    letOwnedTupleGo t1 it v
    assign t1 env v
    let mut ok := true
    for c in ifs do
     if ok then ok ← isTrue c env (eval c env)
    if ok then
     (do let _ ← call (.builtin "list.append") [acc, ← eval elt env])
    again (.compLoop (.ListComp elt [⟨t0, i0, [], 0⟩, ⟨t1, i1, ifs, 0⟩] scope pos) 1 it acc env)) := by rfl
theorem compTurn_out (elt t0 i0 t1 i1 : PySem.Expr) (ifs : List PySem.Expr) (scope : Scope) (pos : Pos) (it acc : Value) (env : Env) :
  compTurn (.ListComp elt [⟨t0, i0, [], 0⟩, ⟨t1, i1, ifs, 0⟩] scope pos) 0 it acc env = (do
   standAt i0.pos
   match ← pyNext it with
   | none => pure (.done .next)
   | some v =>
    letOwnedTupleGo t0 it v
    assign t0 env v
    let x ← eval i1 env
    standAt i1.pos
    let x ← foldedSetIterable i1 env x
    let _ ← runOwn (.compStart (.ListComp elt [⟨t0, i0, [], 0⟩, ⟨t1, i1, ifs, 0⟩] scope pos) 1 (← holding [x] (pyIter x)) acc env) env
    again (.compLoop (.ListComp elt [⟨t0, i0, [], 0⟩, ⟨t1, i1, ifs, 0⟩] scope pos) 0 it acc env)) := by rfl
section
variable {prog : Program} {W : World} {A : Around} {E : Value → Shared → Prop} {R : Result → Shared → Prop} {s : Shared}
theorem LoopRule.two {elt t0 i0 t1 i1 : PySem.Expr} {ifs : List PySem.Expr} {scope : Scope} {pos : Pos} : LoopRule prog W (.ListComp elt [⟨t0, i0, [], 0⟩, ⟨t1, i1, ifs, 0⟩] scope pos) 1 elt t1 ifs := by
 intro A R it acc env s I turn n h
 refine codeAny_loop rfl I (fun n s hI => ?_) n h
 show wpAny _ A ((compTurn (.ListComp elt [⟨t0, i0, [], 0⟩, ⟨t1, i1, ifs, 0⟩] scope pos) 1 it acc env).onRaise (fun x => do noteFrame x env; theTreesLotGoes x)) _ _ s
 refine wpAny_noted ?_
 rw [compTurn_in]
 refine wpAny_bind (wpAny_standAt (wpAny_bind (wpAny_mono (turn n s hI) (fun r s₁ h₁ => ?_) fun q_ q_ h' => h')))
 cases r with
 | none => exact wpAny_pure h₁
 | some v =>
  refine wpAny_bind (wpAny_mono h₁ (fun q_ s₀ h₀' => ?_) fun q_ q_ h' => h')
  refine wpAny_bind (wpAny_mono h₀' (fun q_ s₂ h₂ => ?_) fun q_ q_ h' => h')
  refine wpAny_bind (wpAny_mono h₂ (fun okb s₃ h₃ => ?_) fun q_ q_ h' => h')
  cases okb with
  | false => exact wpAny_pure ⟨rfl, h₃⟩
  | true => exact wpAny_bind (wpAny_bind (wpAny_mono h₃ (fun x s₄ h₄ => wpAny_bind (wpAny_mono h₄ (fun q_ s₅ h₅ => wpAny_pure (wpAny_pure ⟨rfl, h₅⟩)) fun q_ q_ h' => h')) fun q_ q_ h' => h'))
theorem start_in {elt t0 i0 t1 i1 : PySem.Expr} {ifs : List PySem.Expr} {scope : Scope} {pos : Pos} {it acc : Value} {env : Env}
  (h0 : codeAny (model prog W) A (.compLoop (.ListComp elt [⟨t0, i0, [], 0⟩, ⟨t1, i1, ifs, 0⟩] scope pos) 1 it acc env) R s)
  (h : wpAny (model prog W) A (pyIter it) (fun it' s' => codeAny (model prog W) A (.compLoop (.ListComp elt [⟨t0, i0, [], 0⟩, ⟨t1, i1, ifs, 0⟩] scope pos) 1 it' acc env) R s') (notedBy (model prog W) A env fun x s' => R (.error x) s') s) :
  codeAny (model prog W) A (.compStart (.ListComp elt [⟨t0, i0, [], 0⟩, ⟨t1, i1, ifs, 0⟩] scope pos) 1 it acc env) R s := by
 refine codeAny_of_tree ?_
 show wpAny _ _ ((compStart (.ListComp elt [⟨t0, i0, [], 0⟩, ⟨t1, i1, ifs, 0⟩] scope pos) 1 it acc env).onRaise (fun x => do noteFrame x env; standAt theWindowsPlace)) _ _ s
 refine wpAny_notedAt ?_
 unfold compStart
 show wpAny _ _ (ask >>= _) _ _ s
 refine wpAny_bind (wpAny_askSetting (wpAny_ite ?_))
 split
 ·first
   | exact wpAny_bind (wpAny_pure (wpAny_pure (And.intro rfl h0)))
   | exact wpAny_pure (And.intro rfl h0)
 ·exact wpAny_bind (wpAny_rule (wpAny_bind (wpAny_standAt (wpAny_bind (wpAny_mono h (fun it' s' h' => wpAny_pure (And.intro rfl h')) fun _ _ x => x)))))
end
noncomputable def Co2 (C : Ct) (n : Nat) (env : Env) (t0 t1 i1 : PySem.Expr) (ifs : List PySem.Expr) (elt : PySem.Expr) (σ : Loc) (H : List HObj) : List V → List V → Prop
 | [], rs => rs = []
 | v :: l, rs => ∃ (σ0 : Loc) (l1 : List V) (Ok1 : List HObj → Prop) (T1 : PySem.Expr → Bool) (rs1 rs' : List V), (∀ K, Ast C n env [env.locals] t0 v σ (H ++ K) σ0) ∧ (∀ K, SrcE C n env σ0 (H ++ K) i1 (H ++ K) Ok1 T1 l1) ∧ T1 t1 = true ∧ (∀ K, Ok1 (H ++ K)) ∧ l1.length ≤ 1000 ∧
   Co C n env t1 ifs elt σ0 H l1 rs1 ∧ (∀ x v, σ.lookup x = some v → σ0.lookup x = some v) ∧ rs = rs1 ++ rs' ∧ Co2 C n env t0 t1 i1 ifs elt σ H l rs'
inductive CompI2 (C : Ct) (n : Nat) (cenv : Env) (t0 t1 i1 : PySem.Expr) (ifs : List PySem.Expr) (elt : PySem.Expr) (σ : Loc) (H1 : List HObj) (X : List Addr) (l rs : List V) (P : Nat → Wd → Prop) (w1 : Wd) (D : Addr) (j : Nat) (s' : Shared) : Prop
 | mk (w' : Wd) (acc : List V) (i : Nat) (rs' : List V) : s' = w'.s → ForAt C cenv [] X w1 w1 w' (H1 ++ [.list acc]) σ → P i w' → i ≤ l.length → j = (l.drop i).length → Co2 C n cenv t0 t1 i1 ifs elt σ H1 (l.drop i) rs' → acc ++ rs' = rs → acc.length ≤ i * 1000 → w'.ρ[H1.length]? = some D → CompI2 C n cenv t0 t1 i1 ifs elt σ H1 X l rs P w1 D j s'
section
variable {C : Ct} {n : Nat} {env cenv : Env} {σ σ0 : Loc} {H H1 : List HObj} {v : V} {elt t0 i0 t1 i1 : PySem.Expr} {ifs : List PySem.Expr} {scope : Scope} {pos : Pos}
set_option maxHeartbeats 1000000 in
theorem comp2_go {Ok : List HObj → Prop} {T : PySem.Expr → Bool} {L l acc rs : List V} {A : Around} {it : Value} {X : List Addr} {P : Nat → Wd → Prop} {P' : Nat → Value → Wd → Prop} {w1 w5 : Wd} {D : Addr} {i : Nat} {Qf : PySem.Fin → Shared → Prop} {E : Value → Shared → Prop}
  (N : NextB C n Ok T it X L P P') (R : Room A n) (hT : T t0 = true) (hOk : ∀ K, Ok (H1 ++ K)) (hlen : L.length ≤ 100) (hL : w1.h.get? cenv.locals = none) (h5 : ForAt C cenv [] X w1 w1 w5 (H1 ++ [.list acc]) σ) (p5 : P i w5) (hi : i ≤ L.length) (hl : L.drop i = l)
  (hfold : ∀ (env : Env) x, foldedSetIterable i1 env x = pure x) (hco : Co2 C n cenv t0 t1 i1 ifs elt σ H1 l rs) (hai : acc.length ≤ i * 1000) (hρ5 : w5.ρ[H1.length]? = some D)
  (K : rs = [] → ∀ w6, ForAt C cenv [] X w1 w1 w6 (H1 ++ [.list acc]) σ → w6.ρ[H1.length]? = some D → Qf (.done .next) w6.s)
  (hN : ∀ w' acc' rs', acc' ++ rs' = acc ++ rs → ForAt C cenv [] X w1 w1 w' (H1 ++ [.list acc']) σ → P (i + 1) w' → i + 1 ≤ L.length → Co2 C n cenv t0 t1 i1 ifs elt σ H1 (L.drop (i + 1)) rs' → acc'.length ≤ (i + 1) * 1000 → w'.ρ[H1.length]? = some D → Qf (.again (.compLoop (.ListComp elt [⟨t0, i0, [], 0⟩, ⟨t1, i1, ifs, 0⟩] scope pos) 0 it (.ref D) cenv)) w'.s) :
  wpAny C.M A (compTurn (.ListComp elt [⟨t0, i0, [], 0⟩, ⟨t1, i1, ifs, 0⟩] scope pos) 0 it (.ref D) cenv) Qf E w5.s := by
 rw [compTurn_out]
 refine wpAny_bind (wpAny_standAt (wpAny_bind ?_))
 cases l with
 | nil =>
  have hlen' : i = L.length := Nat.le_antisymm hi (List.drop_eq_nil_iff.mp hl)
  subst hlen'
  exact N.fin A w5 _ _ _ R h5.B (hOk _) p5 (N.apart p5 h5.B h5.F h5.pi).2.2 h5.low fun w6 S56 hr ht => wpAny_pure (K hco w6 (h5.back (N.fld _ _ p5) S56 hr ht) (by rw [hr]; exact hρ5))
 | cons v l =>
  obtain ⟨σ0, l1, Ok1, T1, rs1, rs', ha, hs, hT1, hOk1, hl1, hc1, hsub, rfl, hc2⟩ := hco
  refine turn_own N h5 R hT hl (hOk _) p5 (fun w7 y h7 p7 r7 hr7 hdrop hlt => ?_) (fun y s₁ q => wpAny_bind q)
  refine wpAny_bind (ha _ A w7 y _ _ R h7.B h7.F r7 fun w8 S78 B8 F8 => ?_)
  have c := comp_laid N h7 p7 S78 B8 F8 (.new hL) rfl
  have d8 : w8.ρ[H1.length]? = some D := by rw [c.1, hr7]; exact hρ5
  refine wpAny_bind (wpAny_mono (hs _ A w8 (fun it1 s1 => wpAny C.M A (runOwn (.compStart (.ListComp elt [⟨t0, i0, [], 0⟩, ⟨t1, i1, ifs, 0⟩] scope pos) 1 it1 (.ref D) cenv) cenv >>= fun _ => again (.compLoop (.ListComp elt [⟨t0, i0, [], 0⟩, ⟨t1, i1, ifs, 0⟩] scope pos) 0 it (.ref D) cenv)) Qf E s1) E R B8 F8 fun w9 w10 it1 X1 P1 P1' H0 S89 B9 F9 S910 B10 hX1 N1 p10 => ?_) (fun y1 s1 h1 => ?_) fun _ _ e => e)
  ·refine wpAny_bind (wpAny_runOwn ?_)
   have d10 := S910.at (S89.at d8)
   have al : ∀ q ∈ [cenv.locals], ∃ o, w9.h.get? q = some o := fun q m => by rw [List.mem_singleton.mp m]; exact F9.alive _ (.head _)
   have loop := comp_loop (ex := .ListComp elt [⟨t0, i0, [], 0⟩, ⟨t1, i1, ifs, 0⟩] scope pos) (b := i * 1000) (Y := [cenv.locals]) (A := A.mark none) (cenv := cenv) (it := it1)
    (R' := fun r s' => match r with | .ok f => wpAny C.M A (again (.compLoop (.ListComp elt [⟨t0, i0, [], 0⟩, ⟨t1, i1, ifs, 0⟩] scope pos) 0 it (.ref D) cenv)) Qf E s' | .error e => cameBackBy C.M A cenv E e s')
    LoopRule.two hT1 hOk1 (by have := Nat.mul_le_mul_right 1000 (Nat.le_trans hi hlen); rw [sizeLine_eq]; lia) N1 R.mark ⟨hX1, B9.stays, fun a m => (B9.pins a m).2, Step.refl _ _, S910.wide al, S910.wide al, B10, F9.step0 S910⟩ p10 d10 .old hai hc1 fun w11 h11 d11 => ?_
   ·exact start_in loop (N1.self _ _ _ _ R.mark p10 loop)
   ·have c2 := comp_laid N c.2.1 c.2.2 ((S89.wide fun q m => by rw [List.mem_singleton.mp m]; exact F8.alive _ (.head _)).trans h11.S0) h11.B (h11.F.weak hsub) (.new hL) (by rw [List.length_append, List.length_append]; rfl)
    exact wpAny_pure (hN w11 (acc ++ rs1) rs' (List.append_assoc _ _ _) c2.2.1 c2.2.2 hlt (hdrop ▸ hc2) (by rw [List.length_append]; have := hc1.lengths; lia) d11)
  ·exact wpAny_bind (wpAny_standAt (wpAny_bind (wpAny_of_eq (hfold _ y1) (wpAny_bind (wpAny_holding h1)))))
theorem comp2_loop {Ok : List HObj → Prop} {T : PySem.Expr → Bool} {l rs : List V} (hT : T t0 = true) (hOk : ∀ K, Ok (H1 ++ K)) (hlen : l.length ≤ 100) {A : Around} {it : Value} {X : List Addr} {P : Nat → Wd → Prop} {P' : Nat → Value → Wd → Prop} {w1 w4 : Wd} {D : Addr} {R' : Result → Shared → Prop}
  (N : NextB C n Ok T it X l P P') (R : Room A n) (h4 : ForAt C cenv [] X w1 w1 w4 (H1 ++ [.list []]) σ) (p4 : P 0 w4) (hρ : w4.ρ[H1.length]? = some D) (hL : w1.h.get? cenv.locals = none) (hfold : ∀ (env : Env) x, foldedSetIterable i1 env x = pure x) (hco : Co2 C n cenv t0 t1 i1 ifs elt σ H1 l rs)
  (K : ∀ w6, ForAt C cenv [] X w1 w1 w6 (H1 ++ [.list rs]) σ → w6.ρ[H1.length]? = some D → R' (.ok .next) w6.s) : codeAny C.M A (.compLoop (.ListComp elt [⟨t0, i0, [], 0⟩, ⟨t1, i1, ifs, 0⟩] scope pos) 0 it (.ref D) cenv) R' w4.s := by
 refine codeAny_loop rfl (CompI2 C n cenv t0 t1 i1 ifs elt σ H1 X l rs P w1 D) (fun j s I => ?_) l.length ⟨w4, [], 0, rs, rfl, h4, p4, Nat.zero_le _, rfl, hco, rfl, Nat.zero_le _, hρ⟩
 obtain ⟨w5, acc, i, rs5, rfl, h5, p5, hi, rfl, hco5, hacc, hai, hρ5⟩ := I
 show wpAny _ A ((compTurn (.ListComp elt [⟨t0, i0, [], 0⟩, ⟨t1, i1, ifs, 0⟩] scope pos) 0 it (.ref D) cenv).onRaise (fun x => do noteFrame x cenv; theTreesLotGoes x)) _ _ w5.s
 refine wpAny_noted ?_
 exact comp2_go N R hT hOk hlen hL h5 p5 hi rfl hfold hco5 hai hρ5 (fun z w6 h6 d6 => K w6 (by rw [z, List.append_nil] at hacc; exact hacc ▸ h6) d6)
  fun w' acc' rs' e h p hi' hc ha hd => ⟨rfl, _, drop_lt hi', w', acc', i + 1, rs', rfl, h, p, hi', rfl, hc, e.trans hacc, ha, hd⟩
theorem Ev.comp2 {Ok : List HObj → Prop} {T : PySem.Expr → Bool} {l rs : List V} {S : Scope} (hS : env.scope = S) (he : SrcE C n env σ H i0 H1 Ok T l) (hT : T t0 = true) (hOk : ∀ K, Ok (H1 ++ K)) (ok : compOk scope S = true)
  (hco : ∀ cenv : Env, cenv.scope = relS scope S → Co2 C n cenv t0 t1 i1 ifs elt (inner scope σ) H1 l rs) (hlen : l.length ≤ 100) (hfold : ∀ (env : Env) x, foldedSetIterable i0 env x = pure x) (hfold1 : ∀ (env : Env) x, foldedSetIterable i1 env x = pure x) (hH : H.length ≤ H1.length) :
  Ev C n env σ H (.ListComp elt [⟨t0, i0, [], 0⟩, ⟨t1, i1, ifs, 0⟩] scope pos) H1 (.lst rs) := by
 subst hS
 intro A w Q E R B F0 K
 rw [eval_ListComp]
 refine comp_coreG (use := Option.none) ok (fun h N R h4 p4 hρ hL K => comp2_loop hT hOk hlen N R h4 p4 hρ hL hfold1 (hco _ h) K) hfold R F0 (he.at R B F0) fun w0 L D m S B' F' h hn f hcl => ⟨m, hn, fun h' hs' => ?_⟩
 obtain ⟨w', e7, r7, B', F, S⟩ := letgo f hn B' F' S hs'
 rw [← e7]
 rw [← r7] at h
 have B'' := (B'.lower H1.length (by rw [List.take_left]; exact hcl) (by simp)).1
 rw [List.take_left] at B''
 have S' := S.lower (m := H1.length) (by rw [B.len]; exact hH)
 exact K ⟨w'.ρ.take H1.length, w'.π, w'.s⟩ _ S' B'' (F0.step0 S') (Fz.rel (H := H1 ++ [.list rs]) B' (.lst (by simp) (Nat.le_refl _)) (.ref h))
end
end
abbrev PT : Type := Nat × Bool × Nat
noncomputable def tok (k : Nat) : Str := toldL.getD k (Str.ofString "(")
noncomputable def nameOf (k : Nat) (b : Bool) : Str := tok k ++ (if b = true then Str.ofString "Q" else Str.ofString "q")
noncomputable abbrev pairS (q : PT) : Str × Str := (nameOf q.1 q.2.1, numS q.2.2)
noncomputable abbrev pV (q : PT) : V := .tup [.str (nameOf q.1 q.2.1), .str (numS q.2.2)]
noncomputable def pairsT (P : List PT) : List V := P.map pV
theorem pairsT_eq (P : List PT) : pairsV (P.map pairS) = pairsT P := by unfold pairsV pairsT; rw [List.map_map]; rfl
noncomputable def plainB (x : Str) : Bool := x.cps.toList.all (fun c => decide (32 ≤ c) && decide (c < 127)) && decide (x.length ≤ 100000)
theorem plainB_ok {x : Str} (h : plainB x = true) : Plain x := by
 unfold plainB at h
 simp only [Bool.and_eq_true, decide_eq_true_eq, List.all_eq_true] at h
 exact ⟨fun c m => h.1 c (Array.mem_toList_iff.mpr m), h.2⟩
noncomputable def nameT (k : Nat) (b : Bool) : Bool := (cutQ (nameOf k b) == tok k) && (low (nameOf k b) == nameOf k false) && plainB (nameOf k b) && decide ((nameOf k b).length ≤ 10) && (Txt.swapcase (nameOf k b) == nameOf k (!b))
theorem name_all : ((List.range 48).all fun k => nameT k true && nameT k false) = true := by decide +kernel
theorem name_ok {k : Nat} (b : Bool) (h : k < 48) : cutQ (nameOf k b) = tok k ∧ low (nameOf k b) = nameOf k false ∧ Plain (nameOf k b) ∧ (nameOf k b).length ≤ 10 ∧ Txt.swapcase (nameOf k b) = nameOf k (!b) := by
 have q := Bool.and_eq_true_iff.mp (List.all_eq_true.mp name_all k (List.mem_range.mpr h))
 have q : nameT k b = true := by cases b; exact q.2; exact q.1
 unfold nameT at q
 simp only [Bool.and_eq_true, decide_eq_true_eq, beq_iff_eq] at q
 exact ⟨q.1.1.1.1, q.1.1.1.2, plainB_ok q.1.1.2, q.1.2, q.2⟩
theorem name_len {k : Nat} (b : Bool) (h : k < 48) : (nameOf k b).length ≤ 100000 := Nat.le_trans (name_ok b h).2.2.2.1 (by decide)
theorem told_len : toldL.length = 48 := by decide +kernel
theorem tok_get {k : Nat} (h : k < 48) : toldL[k]? = some (tok k) := by
 unfold tok
 rw [List.getD_eq_getElem?_getD, List.getElem?_eq_getElem (by rw [told_len]; exact h)]; rfl
theorem told_nodup : toldL.Nodup := by decide +kernel
theorem tok_inj {j k : Nat} (hj : j < 48) (hk : k < 48) (h : tok j = tok k) : j = k := by
 have h1 := tok_get hj
 rw [h, ← tok_get hk] at h1
 exact (List.getElem?_inj (by rw [told_len]; exact hj) told_nodup).mp h1
theorem name_key {j k : Nat} {b : Bool} (hj : j < 48) (hk : k < 48) : low (nameOf j b) = low (nameOf k b') ↔ j = k := by
 rw [(name_ok b hj).2.1, (name_ok b' hk).2.1]
 refine ⟨fun h => tok_inj hj hk ?_, fun h => by rw [h]⟩
 rw [← (name_ok false hj).1, ← (name_ok false hk).1, h]
theorem isK_name {q : PT} {k : Nat} {b : Bool} (hq : q.1 < 48) (hk : k < 48) : isK (nameOf k b) (pairS q) = decide (q.1 = k) := by
 unfold isK
 exact decide_eq_decide.mpr (name_key hq hk)
theorem fn_num (c : C1) (H : List HObj) {k : Nat} {b : Bool} (h : k < 48) : Fn c.ct 3 (.val (.ref 258)) [.str (nameOf k b)] [] H H (.int (208 + k)) := fn_number c H (by rw [(name_ok b h).1]; exact tok_get h) (name_len b h)
noncomputable def grp (P : List PT) (k : Nat) : List PT := P.filter fun q => decide (q.1 = k)
noncomputable def lay (ks : List Nat) (P : List PT) : List PT := ks.flatMap (grp P)
theorem mem_grp {P : List PT} {k : Nat} {q : PT} (h : q ∈ grp P k) : q ∈ P ∧ q.1 = k := by
 unfold grp at h
 exact ⟨(List.mem_filter.mp h).1, of_decide_eq_true (List.mem_filter.mp h).2⟩
theorem grp_more {P : List PT} {k : Nat} {q : PT} : grp (P ++ [q]) k = if q.1 = k then grp P k ++ [q] else grp P k := by
 unfold grp
 rw [List.filter_append]
 by_cases e : q.1 = k
 ·rw [if_pos e, List.filter_cons, decide_eq_true e]; rfl
 ·rw [if_neg e, List.filter_cons, decide_eq_false e]; exact List.append_nil _
theorem lay_cut {ks : List Nat} (hs : ks.Pairwise (· < ·)) {k : Nat} (hk : k ∈ ks) (P : List PT) : ∃ f r, f ≤ r ∧ r ≤ (lay ks P).length ∧ ((lay ks P).drop f).take (r - f) = grp P k ∧
  (∀ q : PT, q.1 = k → lay ks (P ++ [q]) = (lay ks P).take r ++ q :: (lay ks P).drop r) ∧ ∀ i p, (lay ks P)[i]? = some p → (i < f → p.1 < k) ∧ (f ≤ i → i < r → p.1 = k) ∧ (r ≤ i → k < p.1) := by
 obtain ⟨A, B, rfl⟩ := List.append_of_mem hk
 have hA : ∀ a ∈ A, a < k := fun a m => (List.pairwise_append.mp hs).2.2 a m k (.head _)
 have hB : ∀ b ∈ B, k < b := fun b m => (List.pairwise_cons.mp (List.pairwise_append.mp hs).2.1).1 b m
 have e : ∀ P, lay (A ++ k :: B) P = lay A P ++ (grp P k ++ lay B P) := fun P => by
  unfold lay; rw [List.flatMap_append, List.flatMap_cons]
 have out : ∀ (L : List Nat) (q : PT), q.1 ∉ L → lay L (P ++ [q]) = lay L P := fun L q hn => by
  induction L with
  | nil => rfl
  | cons a L ih =>
   show grp (P ++ [q]) a ++ lay L (P ++ [q]) = grp P a ++ lay L P
   rw [grp_more, if_neg fun z => hn (List.mem_cons.mpr (.inl z)), ih fun m => hn (.tail _ m)]
 have mem : ∀ (L : List Nat) q, q ∈ lay L P → q.1 ∈ L := fun L q m => by
  obtain ⟨a, ma, mq⟩ := List.mem_flatMap.mp m
  rw [(mem_grp mq).2]; exact ma
 refine ⟨(lay A P).length, (lay A P).length + (grp P k).length, Nat.le_add_right _ _, ?_, ?_, fun q hq => ?_, fun i p hp => ⟨fun h => ?_, fun h1 h2 => ?_, fun h => ?_⟩⟩
 ·rw [e, List.length_append, List.length_append]; lia
 ·rw [e, List.drop_left, Nat.add_sub_cancel_left, List.take_left]
 ·subst hq
  have t1 : (lay (A ++ q.1 :: B) P).take ((lay A P).length + (grp P q.1).length) = lay A P ++ grp P q.1 := by
   rw [e, ← List.append_assoc, ← List.length_append, List.take_left]
  have t2 : (lay (A ++ q.1 :: B) P).drop ((lay A P).length + (grp P q.1).length) = lay B P := by
   rw [e, ← List.append_assoc, ← List.length_append, List.drop_left]
  rw [t1, t2, e, out A q fun m => Nat.lt_irrefl _ (hA _ m), out B q fun m => Nat.lt_irrefl _ (hB _ m), grp_more, if_pos rfl]
  simp only [List.append_assoc, List.cons_append, List.nil_append]
 ·rw [e, List.getElem?_append_left h] at hp
  exact hA _ (mem A p (List.mem_of_getElem? hp))
 ·rw [e, List.getElem?_append_right h1, List.getElem?_append_left (by omega)] at hp
  exact (mem_grp (List.mem_of_getElem? hp)).2
 ·rw [e, List.getElem?_append_right (by lia), List.getElem?_append_right (by omega)] at hp
  exact hB _ (mem B p (List.mem_of_getElem? hp))
theorem lay_len {ks : List Nat} {P : List PT} {m : Nat} (h : P.length ≤ m) : (lay ks P).length ≤ ks.length * m := by
 induction ks with
 | nil => exact Nat.zero_le _
 | cons k ks ih =>
  show ((grp P k) ++ lay ks P).length ≤ _
  have := Nat.le_trans (List.length_filter_le (fun q : PT => decide (q.1 = k)) P) h
  rw [List.length_append, List.length_cons, Nat.add_mul, Nat.one_mul]
  have h2 : (grp P k).length ≤ m := this
  lia
theorem mem_lay {ks : List Nat} {P : List PT} {q : PT} (h : q ∈ lay ks P) : q ∈ P := by
 obtain ⟨a, _, mq⟩ := List.mem_flatMap.mp h
 exact (mem_grp mq).1
theorem pairsT_at {P : List PT} {i : Nat} {v : V} (h : (pairsT P)[i]? = some v) : ∃ q, P[i]? = some q ∧ v = pV q := by
 unfold pairsT at h
 rw [List.getElem?_map] at h
 obtain ⟨q, h1, h2⟩ := Option.map_eq_some_iff.mp h
 exact ⟨q, h1, h2.symm⟩
theorem pairsT_len (P : List PT) : (pairsT P).length = P.length := List.length_map ..
theorem pairsT_dat (P : List PT) : datL (pairsT P) = true := datL_iff.mpr fun v m => by
 obtain ⟨q, _, rfl⟩ := List.mem_map.mp m; rfl
noncomputable def wgt (P : List PT) (k : Nat) : Nat := ((grp P k).map fun q => q.2.2).sum
theorem Co2.flat {C : Ct} {n : Nat} {env : Env} {t0 t1 i1 elt : PySem.Expr} {ifs : List PySem.Expr} {σ : Loc} {H : List HObj} {α : Type} {f : α → V} {g : α → List V} {l : List α}
  (h : ∀ a ∈ l, ∃ (σ0 : Loc) (l1 : List V) (Ok1 : List HObj → Prop) (T1 : PySem.Expr → Bool), (∀ K, Ast C n env [env.locals] t0 (f a) σ (H ++ K) σ0) ∧ (∀ K, SrcE C n env σ0 (H ++ K) i1 (H ++ K) Ok1 T1 l1) ∧ T1 t1 = true ∧ (∀ K, Ok1 (H ++ K)) ∧ l1.length ≤ 1000 ∧ Co C n env t1 ifs elt σ0 H l1 (g a) ∧ (∀ x v, σ.lookup x = some v → σ0.lookup x = some v)) :
  Co2 C n env t0 t1 i1 ifs elt σ H (l.map f) (l.flatMap g) := by
 induction l with
 | nil => rfl
 | cons a l ih =>
  obtain ⟨σ0, l1, Ok1, T1, h1, h2, h3, h4, h5, h6, h7⟩ := h a (.head _)
  exact ⟨σ0, l1, Ok1, T1, g a, l.flatMap g, h1, h2, h3, h4, h5, h6, h7, rfl, ih fun b m => h b (.tail _ m)⟩
theorem Ex.gen3 {C : Ct} {n : Nat} {env : Env} {σ : Loc} {H : List HObj} {body : List PySem.Stmt} {o : Out} {x y z : Str} {a b w : V} {Q : V → Prop} (h : ∀ nf, Q nf → Ex C n env ((x, a) :: (y, b) :: (z, nf) :: σ) H body o) (q : Q w) : Ex C n env ((x, a) :: (y, b) :: (z, w) :: σ) H body o := h w q
noncomputable abbrev KB (k : Nat) : V := .int (208 + ((k : Nat) : Int))
noncomputable def NumQ (c : C1) (P : List PT) (nf : V) : Prop := Kp c.ct nf ∧ (∀ (w : Wd) x, VRel w nf x → (x == Value.none) = false) ∧ ∀ (H : List HObj) (q : PT), q ∈ P → Fn c.ct 4 nf [pV q] [] H H (KB q.1)
noncomputable def keyAt (l : List PT) (i : Nat) : Nat := (l.getD i (0, false, 0)).1
theorem keyAt_of {l : List PT} {i : Nat} {q : PT} (h : l[i]? = some q) : keyAt l i = q.1 := by
 unfold keyAt; rw [List.getD_eq_getElem?_getD, h]; rfl
theorem keyAt_has {l : List PT} {i : Nat} (h : i < l.length) : l[i]? = some (l.getD i (0, false, 0)) := by
 rw [List.getD_eq_getElem?_getD, List.getElem?_eq_getElem h]; rfl
noncomputable abbrev GW (H : List HObj) (l w : List V) : List HObj := H ++ [.list l, .list w]
noncomputable abbrev tokV (ks : List Nat) : List V := ks.map fun k => V.str (tok k)
theorem lay_flat (ks : List Nat) (P : List PT) : (ks.flatMap fun k => (grp P k).map pV) = pairsT (lay ks P) := by
 unfold pairsT lay; rw [List.map_flatMap]
theorem take_more {P : List PT} {i : Nat} {q : PT} (h : P[i]? = some q) : P.take (i + 1) = P.take i ++ [q] := by
 rw [List.take_add_one, h]; rfl
theorem pairs_insert {l : List PT} {r : Nat} {q : PT} : (pairsT l).take r ++ pV q :: (pairsT l).drop r = pairsT (l.take r ++ q :: l.drop r) := by
 unfold pairsT; rw [List.map_append, List.map_cons, List.map_take, List.map_drop]
theorem pairsT_cut {l : List PT} {f r : Nat} : ((pairsT l).drop f).take (r - f) = pairsT ((l.drop f).take (r - f)) := by
 unfold pairsT; rw [List.map_take, List.map_drop]
theorem amounts {P : List PT} {k : Nat} (hk : k < 48) (hP : ∀ q ∈ P, q.1 < 48) : ((P.map pairS).filter fun q => decide (Txt.lower q.1 = Txt.lower (nameOf k true))).map (fun q => V.str q.2) = ((grp P k).map fun q => numS q.2.2).map V.str := by
 unfold grp
 rw [List.filter_map, List.map_map, List.map_map]
 have e : ∀ q ∈ P, ((fun q : Str × Str => decide (Txt.lower q.1 = Txt.lower (nameOf k true))) ∘ pairS) q = decide (q.1 = k) := fun q m => isK_name (q := q) (b := true) (hP q m) hk
 rw [List.filter_congr e]; rfl
theorem lay_nil (ks : List Nat) : lay ks [] = [] := by
 unfold lay
 exact List.flatMap_eq_nil_iff.mpr fun k _ => rfl
theorem retN {C : Ct} {n : Nat} {env : Env} {target : PySem.Expr} {body : List PySem.Stmt} {Ok : List HObj → Prop} {l : List V} {σ σ' : Loc} {H : List HObj} {H1 H2 : List HObj} (e : H1 = H2) (h : Fo C n env target body Ok l σ H (.next σ' H1)) : Fo C n env target body Ok l σ H (.next σ' H2) := e ▸ h
theorem tok_len {k : Nat} (h : k < 48) : (tok k).length + 1 ≤ 10 := by
 have := (name_ok true h).2.2.2.1
 have e : (nameOf k true).length = (tok k).length + 1 := by
  unfold nameOf
  rw [KWk.len_list, show (tok k ++ if true = true then Str.ofString "Q" else Str.ofString "q").cps.toList = cs (tok k ++ Str.ofString "Q") from rfl, cs_append, List.length_append, show cs (Str.ofString "Q") = [81] from by decide, ← KWk.len_list]; rfl
 lia
theorem tokV_at {ks : List Nat} {i : Nat} {v : V} (h : (tokV ks)[i]? = some v) : ∃ k, ks[i]? = some k ∧ v = .str (tok k) := by
 rw [List.getElem?_map] at h
 obtain ⟨q, h1, h2⟩ := Option.map_eq_some_iff.mp h
 exact ⟨q, h1, h2.symm⟩
theorem take_moreN {P : List Nat} {i : Nat} {q : Nat} (h : P[i]? = some q) : P.take (i + 1) = P.take i ++ [q] := by
 rw [List.take_add_one, h]; rfl
theorem fn_weights (c : C1) (H : List HObj) {t ia j : Nat} {P : List PT} {ks : List Nat} {up ul : V} (hT : H[t]? = some (.sem (tabA t 265 (Str.ofString "_law_weights.<locals>.<lambda>")))) (hj : H[j]? = some (.sem (ownA HX ia))) (hi : H[ia]? = some (.list (pairsV (P.map pairS)))) (hp : Lsy H up (pairsT P)) (hl : Lsy H ul (tokV ks)) (h6 : ks.length = 6) (hks : ∀ k ∈ ks, k < 48) (hs : ks.Pairwise (· < ·)) (h18 : P.length ≤ 18) (hP : ∀ q ∈ P, q.1 < 48 ∧ q.1 ∈ ks ∧ q.2.2 ≤ 10) : Fn c.ct 7 (.val (.ref 268)) [.sem (instA 247 j), up, ul] [] H (GW H (pairsT (lay ks P)) (ks.map fun k => nI (wgt P k))) (.ref (H.length + 1)) := by
 obtain ⟨bm, ob, b1, b2, b3, b4, b5, b6⟩ := c.bm
 have hPl : ∀ q ∈ P.map pairS, q.1.length ≤ 100000 := fun q m => by obtain ⟨p, mp, rfl⟩ := List.mem_map.mp m; exact name_len _ (hP p mp).1
 have hen : (ks.take 6) = ks := by rw [← h6, List.take_length]
 refine' fnOfE (ns := ["table", "pairs", "line"]) (vs := [.sem (instA 247 j), up, ul]) (o := .ret (.ref (H.length + 1)) (GW H (pairsT (lay ks P)) (ks.map fun k => nI (wgt P k)))) ?ho ?hb ?hst ?hcd ?hns ?hnd ?hbind ?hbody ?hfin
 walk_at "t_of"
 case hbind => exact bind3 fun q_ q_ q_ => Looks.of_pure rfl
 case hbody =>
  intro env hS hCd hQl; dsimp only at hS hCd hQl
  refine Ex.cons (Es.assignS (Ev.tup (EvL.cons (Ev.lstT EvL.nil (Nat.le_of_ble_eq_true rfl) (by rfl)) (EvL.cons (Ev.eqv (v1 := .ref (H.length + 1)) (Ev.lstT EvL.nil (Nat.le_of_ble_eq_true rfl) (by rfl)) (by rw [List.length_append]; rfl)) (EvL.cons (Ev.lam0 (getElem?_append_some (getElem?_append_some hT)) hCd (by rw [hQl]; decide) (hd_weights c) b1 b2 b3 b4 b5 b6 rfl rfl) EvL.nil)))) rfl (stos_cons (il hS rfl) (stos_cons (il hS rfl) (stos_cons (il hS rfl) stos_nil))) (sw_of hS (by intro e he; cases e; dsimp only at he; subst he; rfl)) (ss_of hS (by intro e he; cases e; dsimp only at he; subst he; rfl))) ?_
  refine Ex.gen3 (Q := NumQ c P) ?_ ⟨kp_lam, lam_some, fun H q hq => (Fn.lam (n := 3) (ns := ["pair"]) rfl (by decide) (fun clos pm cd ctv xs hxs => by obtain ⟨x, rfl⟩ := List.length_eq_one_iff.mp hxs; rfl) (fun lenv hL => (Ev.call (gV (g_law_number _) (kind_of hL rfl)) (EvA.args (EvL.cons (Ev.sub (Ev.loc rfl) Ev.int (Itm.tup (j := 0) (by decide) (by decide) rfl rfl (fun q_ q_ => rfl))) EvL.nil)) (fn_num c _ (hP q hq).1) (kp_law_number _))))⟩
  intro nf nq
  exact (Ex.cons (Es.for (SrcE.of (Ev.hdr (hm_items _) (Ev.loc rfl) (getElem?_append_some (getElem?_append_some hj)) EvA.nil ((fn_items c _ (getElem?_append_some (getElem?_append_some hj)) (getElem?_append_some (getElem?_append_some hi)) (by unfold pairsV; rw [List.length_map, List.length_map]; lia)).le (by decide)) rfl rfl) (Src.lst (by rw [pairsT_eq]; exact Lsy.lst))) rfl (foEq (by show (H ++ [HObj.list []]) ++ [HObj.list []] = GW H (pairsT (lay ks (P.take 0))) []; rw [List.append_assoc, List.take_zero, lay_nil]; rfl) (retN (by rw [List.take_length]) (Fo.runsN P.length (pairsT_len P) (fun _ => [("laid", .ref H.length), ("weights", .ref (H.length + 1)), ("number_of", nf), ("table", .sem (instA 247 j)), ("pairs", up), ("line", ul)]) (fun i => GW H (pairsT (lay ks (P.take i))) []) (subs_cons rfl (subs_cons rfl (subs_cons rfl (subs_cons rfl (subs_cons rfl (subs_cons rfl subs_nil)))))) rfl (fun q_ q_ => by rw [pairsT_eq]; exact Lsy.lst) (fun i v hv => by
  obtain ⟨q, hqi, rfl⟩ := pairsT_at hv
  have hq : q ∈ P := List.mem_of_getElem? hqi
  obtain ⟨f, r, hfr, hr, _, hmore, hcut⟩ := lay_cut hs (hP q hq).2.1 (P.take i)
  have hll : (lay ks (P.take i)).length ≤ 6 * 18 := h6 ▸ lay_len (ks := ks) (Nat.le_trans (List.length_take_le' _ _) h18)
  exact Turn.mk (Ast.name (.inr ⟨(il hS rfl), rfl⟩)) (exEq (by rw [set_pile, pairs_insert, take_more hqi, hmore q rfl]) (Ex.one (Es.expr (Ev.call (gV (g_insort_right _) (kind_of hS rfl)) (EvA.kw (kv := [("key", _)]) (EvL.cons (Ev.loc rfl) (EvL.cons (Ev.loc rfl) EvL.nil)) (EvK.cons (Ev.loc rfl) EvK.nil) (fun q_ => rfl) (fun q_ => rfl) (fun q_ => rfl)) ((fn_insort (n := 4) (r := r) (KX := KB q.1) (lt := fun m => decide ((208 + ((q.1 : Nat) : Int)) < 208 + ((keyAt (lay ks (P.take i)) m : Nat) : Int))) c _ at_pile (Nat.lt_of_le_of_lt (Nat.le_of_eq (pairsT_len _)) (Nat.lt_of_le_of_lt hll (by decide))) rfl nq.1 nq.2.1 (by rw [pairsT_len]; exact hr) (nq.2.2 _ q hq) (fun m v hv _ => by
    obtain ⟨p, hp, rfl⟩ := pairsT_at hv
    rw [keyAt_of hp]
    exact ⟨_, nq.2.2 _ p (List.mem_of_mem_take (mem_lay (List.mem_of_getElem? hp))), Cmp.ltI⟩) (fun m hm => by
    have hp := keyAt_has (l := lay ks (P.take i)) (i := m) (by exact Nat.lt_of_lt_of_le (by assumption) (by assumption))
    refine decide_eq_false ?_
    by_cases z : m < f
    ·have := (hcut m _ hp).1 z
     unfold keyAt; lia
    ·have := (hcut m _ hp).2.1 (by exact Nat.le_of_not_lt (by assumption)) hm
     unfold keyAt; lia) (fun m h1 h2 => by
    rw [pairsT_len] at h2
    have := (hcut m _ (keyAt_has h2)).2.2 h1
    refine decide_eq_true ?_
    unfold keyAt; lia)).le (by decide)) (kp_insort_right _)) (in_of hS (by intro e he; cases e; dsimp only at he; subst he; rfl)) rfl))) (subs_cons rfl (subs_cons rfl (subs_cons rfl (subs_cons rfl (subs_cons rfl (subs_cons rfl subs_nil)))))))))) (fun q_ q_ => rfl))
 (Ex.cons (Es.ifFb (Tst.cmp (Ev.loc rfl) (Ev.eqv (Ev.comp2 hS (SrcE.of (Ev.loc rfl) (Src.lst hl.app)) rfl (fun q_ => hl.app.app) (by kernel_rfl) (fun cenv hC1 => (Co2.flat (f := fun k => V.str (tok k)) (g := fun k => (grp P k).map pV) (fun k hk => ⟨_, _, _, _, (fun K => (Ast.name (.inl ⟨kind_of hC1 rfl, rfl⟩))), (fun K => (SrcE.of (Ev.loc rfl) (Src.lst hp.app.app))), rfl, (fun K => hp.app.app), (by rw [pairsT_len]; lia), (Co.pick (f := pV) (p := fun q => decide (q.1 = k)) (g := pV) (fun q hq => ⟨_, (fun K => (Ast.name (.inl ⟨kind_of hC1 rfl, rfl⟩))), (fun K => (TstL.one (Tst.eqb (Tst.cmp (Ev.sliceS (Ev.sub (Ev.loc rfl) Ev.int (Itm.tup (j := 0) (by decide) (by decide) rfl rfl (fun q_ q_ => rfl))) EvP.none (EvP.some (Ev.una Ev.int Una.neg)) (Nat.le_trans (name_len q.2.1 (hP q hq).1) (by decide)) (fun q_ q_ => ⟨_, rfl⟩)) (Ev.loc rfl) Cmp.eqS) (by rw [show Txt.slice (nameOf q.1 q.2.1) none (some (-1)) = tok q.1 from (name_ok q.2.1 (hP q hq).1).1]; exact decide_eq_decide.mpr ⟨fun z => tok_inj (hP q hq).1 (hks k hk) z, fun z => congrArg tok z⟩)))), (fun q_ => ⟨(fun K => (Ev.loc rfl)), rfl⟩), (sub_cons rfl)⟩)), (sub_cons rfl)⟩))) (by rw [List.length_map]; lia) (fun q_ q_ => rfl) (fun q_ q_ => rfl) (Nat.le_refl _)) (congrArg V.lst (lay_flat ks P))) (Cmp.nePairs (xs := (lay ks P).map pairS) (ys := (lay ks P).map pairS) (by rw [List.map_map]; exact .ref at_pile) (by rw [List.map_map]; exact Lsy.lst))) (by rw [decide_eq_true rfl]; rfl) Ex.nil)
 (Ex.cons (Es.for (SrcE.of (Ev.loc rfl) (Src.lst hl.app)) rfl (foEq (by rw [List.take_zero]; rfl) (retN (by rw [hen]) (Fo.runsN 6 (by rw [List.length_map]; exact h6) (fun _ => [("laid", .ref H.length), ("weights", .ref (H.length + 1)), ("number_of", nf), ("table", .sem (instA 247 j)), ("pairs", up), ("line", ul)]) (fun i => GW H (pairsT (lay ks P)) ((ks.take i).map fun k => nI (wgt P k))) (subs_cons rfl (subs_cons rfl (subs_cons rfl (subs_cons rfl (subs_cons rfl (subs_cons rfl subs_nil)))))) rfl (fun q_ q_ => hl.app) (fun i v hv => by
  obtain ⟨k, hki, rfl⟩ := tokV_at hv
  have hk : k ∈ ks := List.mem_of_getElem? hki
  have hk48 := hks k hk
  obtain ⟨f, r, hfr, hr, hsl, _, hcut⟩ := lay_cut hs hk P
  have hll : (lay ks P).length ≤ 6 * 18 := h6 ▸ lay_len (ks := ks) h18
  have hgl : (grp P k).length ≤ 18 := Nat.le_trans (List.length_filter_le _ _) h18
  exact Turn.mk (Ast.name (.inr ⟨(il hS rfl), rfl⟩)) (exEq (by rw [set_dict, take_moreN hki, List.map_append]; rfl) (Ex.cons (Es.assign (Ev.call (gV (g_law_number _) (kind_of hS rfl)) (EvA.args (EvL.cons (Ev.bin (Ev.loc rfl) Ev.str (Bin.addS (Nat.le_trans (tok_len hk48) (by decide)))) EvL.nil)) ((fn_num (b := false) c _ hk48).le (by decide)) (kp_law_number _)) (il hS rfl) rfl)
 (Ex.cons (Es.assign (Ev.call (gV (g_bisect_left _) (kind_of hS rfl)) (EvA.kw (kv := [("key", _)]) (EvL.cons (Ev.loc rfl) (EvL.cons (Ev.loc rfl) EvL.nil)) (EvK.cons (Ev.loc rfl) EvK.nil) (fun q_ => rfl) (fun q_ => rfl) (fun q_ => rfl)) ((fn_bisL2 (n := 4) (r := f) (lt := fun m => decide ((208 + ((keyAt (lay ks P) m : Nat) : Int)) < 208 + ((k : Nat) : Int))) c _ (.ref at_pile) (Nat.lt_of_le_of_lt (Nat.le_of_eq (pairsT_len _)) (Nat.lt_of_le_of_lt hll (by decide))) nq.1 nq.2.1 (by rw [pairsT_len]; exact Nat.le_trans (by assumption) (by assumption)) (fun m v hv _ => by
    obtain ⟨p, hp, rfl⟩ := pairsT_at hv
    rw [keyAt_of hp]
    exact ⟨_, nq.2.2 _ p (mem_lay (List.mem_of_getElem? hp)), Cmp.ltI⟩) (fun m hm => by
    have hp := keyAt_has (l := lay ks P) (i := m) (by lia)
    have := (hcut m _ hp).1 hm
    refine decide_eq_true ?_
    unfold keyAt; lia) (fun m h1 h2 => by
    rw [pairsT_len] at h2
    have hp := keyAt_has h2
    refine decide_eq_false ?_
    by_cases z : m < r
    ·have := (hcut m _ hp).2.1 h1 z
     unfold keyAt; lia
    ·have := (hcut m _ hp).2.2 (by exact Nat.le_of_not_lt (by assumption))
     unfold keyAt; lia)).le (by decide)) (kp_bisect_left _)) (il hS rfl) rfl)
 (Ex.cons (Es.compS hS (SrcE.of (Ev.eqv (v1 := .lst (pairsT (grp P k))) (Ev.sliceL (Ev.loc rfl) (EvP.some (Ev.loc rfl)) (EvP.some (Ev.call (gV (g_bisect_right _) (kind_of hS rfl)) (EvA.kw (kv := [("key", _)]) (EvL.cons (Ev.loc rfl) (EvL.cons (Ev.loc rfl) (EvL.cons (Ev.loc rfl) EvL.nil))) (EvK.cons (Ev.loc rfl) EvK.nil) (fun q_ => rfl) (fun q_ => rfl) (fun q_ => rfl)) ((fn_bisR3 (n := 4) (lo := f) (r := r) (lt := fun m => decide ((208 + ((k : Nat) : Int)) < 208 + ((keyAt (lay ks P) m : Nat) : Int))) c _ (.ref at_pile) (Nat.lt_of_le_of_lt (Nat.le_of_eq (pairsT_len _)) (Nat.lt_of_le_of_lt hll (by decide))) nq.1 nq.2.1 hfr (by rw [pairsT_len]; exact hr) (fun m v hv _ _ => by
    obtain ⟨p, hp, rfl⟩ := pairsT_at hv
    rw [keyAt_of hp]
    exact ⟨_, nq.2.2 _ p (mem_lay (List.mem_of_getElem? hp)), Cmp.ltI⟩) (fun m h1 h2 => by
    have hp := keyAt_has (l := lay ks P) (i := m) (by exact Nat.lt_of_lt_of_le (by assumption) (by assumption))
    have := (hcut m _ hp).2.1 h1 h2
    refine decide_eq_false ?_
    unfold keyAt; lia) (fun m h1 h2 => by
    rw [pairsT_len] at h2
    have := (hcut m _ (keyAt_has h2)).2.2 h1
    refine decide_eq_true ?_
    unfold keyAt; lia)).le (by decide)) (kp_bisect_right _))) EvP.none (.ref at_pile) (by decide) (by rw [pairsT_len, sizeLine_eq]; lia) (fun q_ q_ => ⟨_, rfl⟩)) (congrArg V.lst (by rw [pick_mid, pairsT_cut, hsl]))) (Src.lst Lsy.lst)) rfl (fun q_ => Lsy.lst) (by kernel_rfl) (fun cenv hC2 => (Co.eqr (rs' := ((grp P k).map fun q => numS q.2.2).map V.str) (Co.map (f := pV) (g := fun q => .str (numS q.2.2)) (l := grp P k) (fun q hq => ⟨_, (fun K => (Ast.tup (AsL.cons (Ast.name (.inl ⟨kind_of hC2 rfl, rfl⟩)) (AsL.cons (Ast.name (.inl ⟨kind_of hC2 rfl, rfl⟩)) AsL.nil)) locals_nonSeq)), (fun K => (Ev.loc rfl)), rfl, (sub_two rfl rfl)⟩)) (by rw [List.map_map]; rfl))) (by rw [pairsT_len, sizeLine_eq]; lia) (fun q_ q_ => rfl) (Nat.le_refl _) (il hS rfl) (by intro e he; cases e; dsimp only at he; subst he; rfl))
 (Ex.cons (Es.ifFb (Tst.cmp (Ev.loc rfl) (Ev.hdr (hm_get_all _) (Ev.loc rfl) (getElem?_append_some hj) (EvA.args (EvL.cons (Ev.bin (Ev.loc rfl) Ev.str (Bin.addS (Nat.le_trans (tok_len hk48) (by decide)))) EvL.nil)) ((fn_get_all c _ (getElem?_append_some hj) (getElem?_append_some hi) (by rw [List.length_map]; lia) hPl (name_len true hk48) (by rw [show Txt.lower (nameOf k true) = nameOf k false from (name_ok true hk48).2.1]; exact (name_ok false hk48).2.2.1)).le (by decide)) rfl rfl) (Cmp.neStrs (xs := (grp P k).map fun q => numS q.2.2) (ys := (grp P k).map fun q => numS q.2.2) Lsy.lst (by rw [amounts hk48 (fun q m => (hP q m).1)]; exact Lsy.lst))) (by rw [decide_eq_true rfl]; rfl) Ex.nil)
 (Ex.one (Es.expr (Ev.meth (Ev.loc rfl) (EvL.cons (Ev.call (gB (g_sum _) (kind_of hS rfl)) (EvA.args (EvL.cons (Ev.compS hS (SrcE.of (Ev.loc rfl) (Src.lst Lsy.lst)) rfl (fun q_ => Lsy.lst) (by kernel_rfl) (fun cenv hC3 => (Co.eqr (rs' := ((grp P k).map fun q => q.2.2).map nI) (by rw [List.map_map]; exact Co.map (f := fun q : PT => .str (numS q.2.2)) (g := fun q => nI q.2.2) (l := grp P k) (fun q hq => ⟨_, (fun K => (Ast.name (.inl ⟨kind_of hC3 rfl, rfl⟩))), (fun K => (Ev.call (gB (g_int _) (kind_of hC3 rfl)) (EvA.args (EvL.cons (Ev.loc rfl) EvL.nil)) (Fn.intN (Nat.lt_of_le_of_lt (hP q (mem_grp hq).1).2.2 (by decide))) Kp.typ)), rfl, (sub_cons rfl)⟩)) (by rw [List.map_map]; rfl))) (by rw [List.length_map, List.length_map, sizeLine_eq]; omega) (fun q_ q_ => rfl) (Nat.le_refl _)) EvL.nil)) (Fn.sumN (l := (grp P k).map fun q => q.2.2) Lsy.lst (fun x m => by obtain ⟨q, mq, rfl⟩ := List.mem_map.mp m; exact Nat.le_trans (hP q (mem_grp mq).1).2.2 (by decide)) (by rw [List.length_map]; lia)) Kp.blt) EvL.nil) (Mth.append (i := H.length + 1) at_dict rfl (by rw [List.length_map, List.length_take, sizeLine_eq]; lia)) (Typ.lst (.ref at_dict)) rfl rfl rfl rfl (fun q_ q_ q_ q_ q_ h => Calls.evalArgs_plain h)) (in_of hS (by intro e he; cases e; dsimp only at he; subst he; rfl)) rfl))))))) (subs_cons rfl (subs_cons rfl (subs_cons rfl (subs_cons rfl (subs_cons rfl (subs_cons rfl subs_nil)))))))))) (fun q_ q_ => rfl))
 (Ex.stop (Es.ret (Ev.loc rfl)) (by intro _ _ h; cases h)))))
 case hfin => first | exact Fin.ret | exact Fin.next
noncomputable abbrev dash : Str := Str.ofString "-"
noncomputable def toldV (T : List Str) : List V := T.map fun x => .tup [.str x, .str x]
theorem toldV_more (T : List Str) (x : Str) : toldV T ++ [.tup [.str x, .str x]] = toldV (T ++ [x]) := by unfold toldV; rw [List.map_append]; rfl
theorem toldV_len (T : List Str) : (toldV T).length = T.length := List.length_map ..
theorem pairsT_more (P : List PT) (q : PT) : pairsT P ++ [pV q] = pairsT (P ++ [q]) := by unfold pairsT; rw [List.map_append]; rfl
noncomputable def noK (P : List PT) (k : Nat) : List PT := P.filter fun q => !decide (q.1 = k)
noncomputable def fstK (P : List PT) (k : Nat) : Str := match P.find? fun q => decide (q.1 = k) with
 | some q => numS q.2.2
 | none => dash
theorem find_pairs {P : List PT} {k : Nat} {b : Bool} (hk : k < 48) (hP : ∀ q ∈ P, q.1 < 48) : (P.map pairS).find? (isK (nameOf k b)) = (P.find? fun q => decide (q.1 = k)).map pairS := by
 induction P with
 | nil => rfl
 | cons p P ih =>
  rw [List.map_cons, List.find?_cons, List.find?_cons, isK_name (hP p (.head _)) hk]
  cases decide (p.1 = k)
  ·exact ih fun q m => hP q (.tail _ m)
  ·rfl
theorem find_some {P : List PT} {k : Nat} (h : ∃ q ∈ P, q.1 = k) : ∃ q, P.find? (fun q => decide (q.1 = k)) = some q ∧ fstK P k = numS q.2.2 ∧ ∃ r, grp P k = q :: r := by
 induction P with
 | nil => obtain ⟨q, m, _⟩ := h; cases m
 | cons p P ih =>
  by_cases e : p.1 = k
  ·refine ⟨p, by rw [List.find?_cons, decide_eq_true e], ?_, P.filter fun q => decide (q.1 = k), ?_⟩
   ·unfold fstK; rw [List.find?_cons, decide_eq_true e]
   ·unfold grp; rw [List.filter_cons, decide_eq_true e]; rfl
  ·obtain ⟨q, m, hq⟩ := h
   obtain ⟨q', h1, h2, r, h3⟩ := ih ⟨q, by rcases List.mem_cons.mp m with rfl | m; exact absurd hq e; exact m, hq⟩
   refine ⟨q', by rw [List.find?_cons, decide_eq_false e]; exact h1, ?_, r, ?_⟩
   ·unfold fstK at h2 ⊢; rw [List.find?_cons, decide_eq_false e]; exact h2
   ·unfold grp at h3 ⊢; rw [List.filter_cons, decide_eq_false e]; exact h3
theorem filter_pairs {P : List PT} {k : Nat} {b : Bool} (hk : k < 48) (hP : ∀ q ∈ P, q.1 < 48) : ((P.map pairS).filter fun q => !isK (nameOf k b) q) = (noK P k).map pairS := by
 unfold noK
 rw [List.filter_map]
 have e : ∀ q ∈ P, ((fun q : Str × Str => !isK (nameOf k b) q) ∘ pairS) q = !decide (q.1 = k) := fun q m => by
  show (!isK (nameOf k b) (pairS q)) = _
  rw [isK_name (hP q m) hk]
 rw [List.filter_congr e]
theorem none_noK {P : List PT} {k : Nat} {b : Bool} (hk : k < 48) (hP : ∀ q ∈ P, q.1 < 48) : ∀ q ∈ (noK P k).map pairS, isK (nameOf k b) q = false := fun q m => by
 obtain ⟨p, mp, rfl⟩ := List.mem_map.mp m
 obtain ⟨m1, m2⟩ := List.mem_filter.mp mp
 rw [isK_name (hP p m1) hk]
 exact (Bool.not_eq_true' _).mp m2
structure SB where
 G : List HObj
 jp : Nat
 P : List PT
 T : List Str
noncomputable def stepB (h1 ht : Nat) (q : PT) : Nat → SB → SB
 | 0, s => ⟨(s.G.set h1 (.list (pairsT (s.P ++ [q])))).set s.jp (.list (pairsT (s.P ++ [q]))), s.jp, s.P ++ [q], s.T⟩
 | 1, s => ⟨s.G.set ht (.list (toldV (s.T ++ [fstK s.P q.1]))), s.jp, s.P, s.T ++ [fstK s.P q.1]⟩
 | 2, s => ⟨(s.G ++ [HObj.list (pairsT (noK s.P q.1 ++ [q]))]).set h1 (.list (pairsT (noK s.P q.1 ++ [q]))), s.G.length, noK s.P q.1 ++ [q], s.T⟩
 | _, s => ⟨((((s.G ++ [HObj.list (pairsT (noK s.P q.1 ++ [q]))]).set h1 (.list (pairsT (noK s.P q.1)))).set ht (.list (toldV (s.T ++ [dash])))).set h1 (.list (pairsT (noK s.P q.1 ++ [q])))).set ht (.list (toldV (s.T ++ [dash] ++ [numS q.2.2]))), s.G.length, noK s.P q.1 ++ [q], s.T ++ [dash] ++ [numS q.2.2]⟩
structure InvB (H : List HObj) (sg : List Nat) (i : Nat) (s : SB) : Prop where
 own : s.G[H.length]? = some (.sem (ownA HX (H.length + 1)))
 hl : s.G[H.length + 1]? = some (.list (pairsT s.P))
 tl : s.G[H.length + 3]? = some (.list (toldV s.T))
 pj : s.G[s.jp]? = some (.list (pairsT s.P))
 ne1 : s.jp ≠ H.length + 1
 ne2 : s.jp ≠ H.length + 3
 ge : H.length ≤ s.jp
 frame : ∀ a, a < H.length → s.G[a]? = H[a]?
 len : H.length + 4 ≤ s.G.length
 Plen : s.P.length ≤ i
 Pin : ∀ q ∈ s.P, q.1 ∈ sg ∧ 1 ≤ q.2.2 ∧ q.2.2 ≤ 10
 Pall : ∀ m, m < 6 → m < i → ∀ k, sg[m]? = some k → ∃ q ∈ s.P, q.1 = k
 Tlen : s.T.length ≤ 2 * i
theorem noK_len (P : List PT) (k : Nat) : (noK P k).length ≤ P.length := List.length_filter_le ..
theorem mem_noK {P : List PT} {k : Nat} {q : PT} (h : q ∈ noK P k) : q ∈ P := (List.mem_filter.mp h).1
theorem all_noK {P : List PT} {k j : Nat} {q : PT} (hq : q.1 = k) (h : ∃ p ∈ P, p.1 = j) : ∃ p ∈ noK P k ++ [q], p.1 = j := by
 by_cases e : j = k
 ·exact ⟨q, List.mem_append_right _ (.head _), by rw [e]; exact hq⟩
 ·obtain ⟨p, m, hp⟩ := h
  refine ⟨p, List.mem_append_left _ (List.mem_filter.mpr ⟨m, ?_⟩), hp⟩
  rw [decide_eq_false (by rw [hp]; exact e)]; rfl
theorem InvB.step {H : List HObj} {sg : List Nat} {i d : Nat} {s : SB} {q : PT} (h : InvB H sg i s) (hq : q.1 ∈ sg ∧ 1 ≤ q.2.2 ∧ q.2.2 ≤ 10) (hm : sg[i % 6]? = some q.1) (hd : i < 6 → d = 0) : InvB H sg (i + 1) (stepB (H.length + 1) (H.length + 3) q d s) := by
 have ljp : s.jp < s.G.length := (List.getElem?_eq_some_iff.mp h.pj).1
 have hown : ∀ {G : List HObj} {j : Nat} {x : HObj}, j ≠ H.length → (G.set j x)[H.length]? = G[H.length]? := fun e => List.getElem?_set_ne e
 have neO : s.jp ≠ H.length := fun e => by
  have h1 := h.pj; rw [e, h.own] at h1; cases h1
 have len2 := h.len
 have gj := h.ge
 have pall : ∀ P' : List PT, (∀ j, (∃ p ∈ s.P, p.1 = j) → ∃ p ∈ P', p.1 = j) → (∃ p ∈ P', p.1 = q.1) → ∀ m, m < 6 → m < i + 1 → ∀ k, sg[m]? = some k → ∃ q ∈ P', q.1 = k := fun P' g1 g2 m m1 m2 k hk => by
  by_cases e : m = i
  ·have : i % 6 = m := by rw [← e]; exact Nat.mod_eq_of_lt m1
   rw [this, hk] at hm
   rw [Option.some.inj hm]; exact g2
  ·exact g1 k (h.Pall m m1 (by lia) k hk)
 have pin : ∀ p ∈ noK s.P q.1 ++ [q], p.1 ∈ sg ∧ 1 ≤ p.2.2 ∧ p.2.2 ≤ 10 := fun p m => by
  rcases List.mem_append.mp m with m | m
  ·exact h.Pin p (mem_noK m)
  ·obtain rfl := List.mem_singleton.mp m; exact hq
 have plen : (noK s.P q.1 ++ [q]).length ≤ i + 1 := by
  rw [List.length_append, List.length_singleton]
  have := noK_len s.P q.1
  have := h.Plen
  lia
 have tlen := h.Tlen
 match d, hd with
 | 0, _ =>
  refine ⟨?_, ?_, ?_, ?_, h.ne1, h.ne2, h.ge, fun a ha => ?_, ?_, ?_, fun p m => ?_, pall _ (fun j ⟨p, m, e⟩ => ⟨p, List.mem_append_left _ m, e⟩) ⟨q, List.mem_append_right _ (.head _), rfl⟩, ?_⟩
  ·show ((s.G.set _ _).set _ _)[_]? = _
   rw [hown neO, hown (by lia)]; exact h.own
  ·show ((s.G.set _ _).set _ _)[_]? = _
   rw [List.getElem?_set_ne h.ne1]; exact set_at h.hl
  ·show ((s.G.set _ _).set _ _)[_]? = _
   rw [List.getElem?_set_ne h.ne2, List.getElem?_set_ne (by lia)]; exact h.tl
  ·show ((s.G.set _ _).set _ _)[_]? = _
   exact List.getElem?_set_self (by rw [List.length_set]; exact ljp)
  ·show ((s.G.set _ _).set _ _)[_]? = _
   rw [List.getElem?_set_ne (by lia), List.getElem?_set_ne (by lia)]; exact h.frame a ha
  ·show _ ≤ ((s.G.set _ _).set _ _).length
   rw [List.length_set, List.length_set]; exact h.len
  ·show (s.P ++ [q]).length ≤ _
   rw [List.length_append]
   have := h.Plen
   exact Nat.add_le_add_right this 1
  ·rcases List.mem_append.mp m with m | m
   ·exact h.Pin p m
   ·obtain rfl := List.mem_singleton.mp m; exact hq
  ·show s.T.length ≤ _; lia
 | 1, hd =>
  have hi : 6 ≤ i := Nat.not_lt.mp fun z => absurd (hd z) (by decide)
  refine ⟨?_, ?_, ?_, ?_, h.ne1, h.ne2, h.ge, fun a ha => ?_, ?_, Nat.le_succ_of_le h.Plen, h.Pin, fun m m1 _ k hk => h.Pall m m1 (by lia) k hk, ?_⟩
  ·show (s.G.set _ _)[_]? = _
   rw [hown (by lia)]; exact h.own
  ·show (s.G.set _ _)[_]? = _
   rw [List.getElem?_set_ne (by lia)]; exact h.hl
  ·exact set_at h.tl
  ·show (s.G.set _ _)[s.jp]? = _
   rw [List.getElem?_set_ne h.ne2.symm]; exact h.pj
  ·show (s.G.set _ _)[_]? = _
   rw [List.getElem?_set_ne (by lia)]; exact h.frame a ha
  ·show _ ≤ (s.G.set _ _).length
   rw [List.length_set]; exact h.len
  ·show (s.T ++ _).length ≤ _
   rw [List.length_append, List.length_singleton]; lia
 | 2, _ =>
  have lapp : (s.G ++ [HObj.list (pairsT (noK s.P q.1 ++ [q]))]).length = s.G.length + 1 := List.length_append
  refine ⟨?_, ?_, ?_, ?_, ?_, ?_, ?_, fun a ha => ?_, ?_, plen, pin, pall _ (fun j hj => all_noK rfl hj) ⟨q, List.mem_append_right _ (.head _), rfl⟩, ?_⟩
  ·show ((s.G ++ _).set _ _)[_]? = _
   rw [hown (by omega)]; exact getElem?_append_some h.own
  ·show ((s.G ++ _).set _ _)[_]? = _
   exact List.getElem?_set_self (by rw [lapp]; lia)
  ·show ((s.G ++ _).set _ _)[_]? = _
   rw [List.getElem?_set_ne (by omega)]; exact getElem?_append_some h.tl
  ·show ((s.G ++ _).set _ _)[s.G.length]? = _
   rw [List.getElem?_set_ne (by lia)]; exact at_last
  ·show s.G.length ≠ _; lia
  ·show s.G.length ≠ _; exact Nat.ne_of_gt (by assumption)
  ·show _ ≤ s.G.length; lia
  ·show ((s.G ++ _).set _ _)[_]? = _
   rw [List.getElem?_set_ne (by omega), List.getElem?_append_left (by lia)]; exact h.frame a ha
  ·show _ ≤ ((s.G ++ _).set _ _).length
   rw [List.length_set, lapp]; exact Nat.lt_succ_of_lt (by assumption)
  ·show s.T.length ≤ _; omega
 | d + 3, _ =>
  have lapp : (s.G ++ [HObj.list (pairsT (noK s.P q.1 ++ [q]))]).length = s.G.length + 1 := List.length_append
  refine ⟨?_, ?_, ?_, ?_, ?_, ?_, ?_, fun a ha => ?_, ?_, plen, pin, pall _ (fun j hj => all_noK rfl hj) ⟨q, List.mem_append_right _ (.head _), rfl⟩, ?_⟩
  ·show (((((s.G ++ _).set _ _).set _ _).set _ _).set _ _)[_]? = _
   rw [hown (by omega), hown (by omega), hown (by omega), hown (by omega)]; exact getElem?_append_some h.own
  ·show (((((s.G ++ _).set _ _).set _ _).set _ _).set _ _)[_]? = _
   rw [List.getElem?_set_ne (by omega)]
   exact List.getElem?_set_self (by rw [List.length_set, List.length_set, lapp]; omega)
  ·show (((((s.G ++ _).set _ _).set _ _).set _ _).set _ _)[_]? = _
   exact List.getElem?_set_self (by rw [List.length_set, List.length_set, List.length_set, lapp]; exact Nat.lt_succ_of_lt (by assumption))
  ·show (((((s.G ++ _).set _ _).set _ _).set _ _).set _ _)[s.G.length]? = _
   rw [List.getElem?_set_ne (by exact Nat.ne_of_lt (by assumption)), List.getElem?_set_ne (by omega), List.getElem?_set_ne (by omega), List.getElem?_set_ne (by omega)]; exact at_last
  ·show s.G.length ≠ _; omega
  ·show s.G.length ≠ _; omega
  ·show _ ≤ s.G.length; omega
  ·show (((((s.G ++ _).set _ _).set _ _).set _ _).set _ _)[_]? = _
   rw [List.getElem?_set_ne (by omega), List.getElem?_set_ne (by omega), List.getElem?_set_ne (by omega), List.getElem?_set_ne (by omega), List.getElem?_append_left (by omega)]; exact h.frame a ha
  ·show _ ≤ (((((s.G ++ _).set _ _).set _ _).set _ _).set _ _).length
   rw [List.length_set, List.length_set, List.length_set, List.length_set, lapp]; exact Nat.lt_succ_of_lt (by assumption)
  ·show (s.T ++ [dash] ++ [_]).length ≤ _
   rw [List.length_append, List.length_append, List.length_singleton, List.length_singleton]; lia
noncomputable def xB (cl : List Nat) (i : Nat) : Nat := cl.getD (i % 6) 0 / 80 ^ (i / 6)
noncomputable def greatB (x : Nat) : Bool := decide (x / 10 % 2 = 1)
noncomputable def qB (sg cl : List Nat) (i : Nat) : PT := (sg.getD (i % 6) 0, greatB (xB cl i), 1 + xB cl i % 10)
noncomputable def dB (cl : List Nat) (i : Nat) : Nat := if i > 5 then xB cl i / 20 % 4 else 0
noncomputable def initB (H : List HObj) : SB := ⟨H ++ [.sem (ownA HX (H.length + 1)), .list [], .list [], .list []], H.length + 2, [], []⟩
noncomputable def sB (H : List HObj) (sg cl : List Nat) : Nat → SB
 | 0 => initB H
 | i + 1 => stepB (H.length + 1) (H.length + 3) (qB sg cl i) (dB cl i) (sB H sg cl i)
theorem sB_inv {H : List HObj} {sg cl : List Nat} (h6 : sg.length = 6) : ∀ i, InvB H sg i (sB H sg cl i)
 | 0 => by
  have at4 : ∀ {a : Nat} {x : HObj}, [HObj.sem (ownA HX (H.length + 1)), .list [], .list [], .list []][a]? = some x → (H ++ [HObj.sem (ownA HX (H.length + 1)), .list [], .list [], .list []])[H.length + a]? = some x := fun {a x} e => by
   rw [List.getElem?_append_right (Nat.le_add_right _ _), Nat.add_sub_cancel_left]; exact e
  exact ⟨at4 (a := 0) rfl, at4 (a := 1) rfl, at4 (a := 3) rfl, at4 (a := 2) rfl, fun e => by have e : H.length + 2 = H.length + 1 := e; lia, fun e => by have e : H.length + 2 = H.length + 3 := e; lia, Nat.le_add_right _ _, fun a ha => List.getElem?_append_left ha, by show _ ≤ (H ++ _).length; rw [List.length_append]; exact Nat.le_refl _, Nat.le_refl _, (fun q m => nomatch m), fun m _ h => absurd h (Nat.not_lt_zero _), Nat.le_refl _⟩
 | i + 1 => by
  have hi : i % 6 < sg.length := by rw [h6]; exact Nat.mod_lt _ (by decide)
  have hm : sg[i % 6]? = some (sg.getD (i % 6) 0) := by rw [List.getD_eq_getElem?_getD, List.getElem?_eq_getElem hi]; rfl
  refine (sB_inv h6 i).step (q := qB sg cl i) (d := dB cl i) ⟨List.mem_of_getElem? hm, ?_, ?_⟩ hm fun h => if_neg (by exact Nat.not_le.mpr (by assumption))
  ·show 1 ≤ 1 + _; exact Nat.le_add_right _ _
  ·show 1 + xB cl i % 10 ≤ 10; lia
section
set_option linter.unusedSectionVars false
theorem find_noK {P : List PT} {k : Nat} (h : ∃ q ∈ P, q.1 = k) {b : Bool} (hk : k < 48) (hP : ∀ q ∈ P, q.1 < 48) : ∃ q : PT, (P.map pairS).find? (isK (nameOf k b)) = some (pairS q) ∧ fstK P k = numS q.2.2 ∧ ∃ r, grp P k = q :: r := by
 obtain ⟨q, h1, h2, h3⟩ := find_some h
 exact ⟨q, by rw [find_pairs hk hP, h1]; rfl, h2, h3⟩
theorem lenP {P : List PT} (hlen : P.length ≤ 900) : (P.map pairS).length ≤ 1000 := by rw [List.length_map]; lia
theorem namP {P : List PT} (hP : ∀ q ∈ P, q.1 < 48) : ∀ q ∈ P.map pairS, q.1.length ≤ 100000 := fun q m => by
 obtain ⟨p, mp, rfl⟩ := List.mem_map.mp m; exact name_len _ (hP p mp)
theorem hiP (H : List HObj) {i : Nat} {P : List PT} (hi : H[i]? = some (.list (pairsT P))) : H[i]? = some (.list (pairsV (P.map pairS))) := by rw [pairsT_eq]; exact hi
theorem lowP {k : Nat} {b : Bool} (hk : k < 48) : Plain (low (nameOf k b)) := by rw [(name_ok b hk).2.1]; exact (name_ok false hk).2.2.1
section
variable (c : C1) (H : List HObj) {i j : Nat} {P : List PT} (hj : H[j]? = some (.sem (ownA HX i))) (hi : H[i]? = some (.list (pairsT P))) (hlen : P.length ≤ 900) (hP : ∀ q ∈ P, q.1 < 48) {k : Nat} {b : Bool} {a : Nat} (hk : k < 48) (ha : a < 300)
include hj hi hlen hP hk
include ha in
theorem tb_add : Fn c.ct 4 (.val (.ref 244)) [.sem (instA 247 j), .str (nameOf k b), .str (numS a)] [] H (H.set i (.list (pairsT (P ++ [(k, b, a)])))) .none := by
 have h := fn_add c H hj hi (Nat.lt_of_le_of_lt (by rw [pairsT_len]; exact hlen) (by decide : 900 < 16777216)) (name_ok b hk).2.2.1 (plain_num ha)
 rw [show pairsT P ++ [V.tup [.str (nameOf k b), .str (numS a)]] = pairsT (P ++ [(k, b, a)]) from pairsT_more P (k, b, a)] at h
 exact h
theorem tb_setdefault (he : ∃ q ∈ P, q.1 = k) {y : Str} : Fn c.ct 5 (.val (.ref 237)) [.sem (instA 247 j), .str (nameOf k b), .str y] [] H H (.str (fstK P k)) := by
 obtain ⟨q, h1, h2, _⟩ := find_noK (b := b) he hk hP
 rw [h2]
 exact fn_setdefault c H hj (hiP H hi) (lenP hlen) (namP hP) (name_len b hk) (lowP hk) h1
include ha in
theorem tb_setdefault_no (hn : ∀ q ∈ P, isK (nameOf k b) (pairS q) = false) : Fn c.ct 5 (.val (.ref 237)) [.sem (instA 247 j), .str (nameOf k b), .str (numS a)] [] H (H.set i (.list (pairsT (P ++ [(k, b, a)])))) (.str (numS a)) := by
 have h := fn_setdefault_no c H hj (hiP H hi) (lenP hlen) (namP hP) (name_len b hk) (lowP hk) (name_ok b hk).2.2.1 (plain_num ha) (fun q m => by obtain ⟨p, mp, rfl⟩ := List.mem_map.mp m; exact hn p mp)
 rw [show P.map pairS ++ [(nameOf k b, numS a)] = (P ++ [(k, b, a)]).map pairS from by rw [List.map_append]; rfl, pairsT_eq] at h
 exact h
include ha in
theorem tb_setitem : Fn c.ct 5 (.val (.ref 162)) [.sem (instA 247 j), .str (nameOf k b), .str (numS a)] [] H (H.set i (.list (pairsT (noK P k ++ [(k, b, a)])))) .none := by
 have h := fn_setitem c H hj (hiP H hi) (lenP hlen) (namP hP) (name_len b hk) (lowP hk) (name_ok b hk).2.2.1 (plain_num ha)
 rw [filter_pairs hk hP, show (noK P k).map pairS ++ [(nameOf k b, numS a)] = (noK P k ++ [(k, b, a)]).map pairS from by rw [List.map_append]; rfl, pairsT_eq] at h
 exact h
theorem tb_del : Fn c.ct 4 (.val (.ref 167)) [.sem (instA 247 j), .str (nameOf k b)] [] H (H.set i (.list (pairsT (noK P k)))) .none := by
 have h := fn_delitem c H hj (hiP H hi) (lenP hlen) (namP hP) (name_len b hk) (lowP hk)
 rw [filter_pairs hk hP, pairsT_eq] at h
 exact h
theorem tb_get_no (hn : ∀ q ∈ P, isK (nameOf k b) (pairS q) = false) {D : V} : Fn c.ct 4 (.val (.ref 194)) [.sem (instA 247 j), .str (nameOf k b), D] [] H H D :=
 fn_get_no c H hj (hiP H hi) (Nat.le_trans (lenP hlen) (by decide)) (namP hP) (name_len b hk) (lowP hk) (fun q m => by obtain ⟨p, mp, rfl⟩ := List.mem_map.mp m; exact hn p mp)
end
theorem no_noK {P : List PT} {k : Nat} {b : Bool} (hk : k < 48) (hP : ∀ q ∈ P, q.1 < 48) : ∀ q ∈ noK P k, isK (nameOf k b) (pairS q) = false := fun q m => none_noK hk hP _ (List.mem_map.mpr ⟨q, m, rfl⟩)
theorem tb_items (c : C1) (H : List HObj) {i j : Nat} {P : List PT} (hj : H[j]? = some (.sem (ownA HX i))) (hi : H[i]? = some (.list (pairsT P))) (hlen : P.length ≤ 900) : Fn c.ct 3 (.val (.ref 211)) [.sem (instA 247 j)] [] H H (.lst (pairsT P)) := fn_items c H hj hi (Nat.le_trans (by rw [pairsT_len]; exact hlen) (by decide))
theorem fmodN (m : Nat) {x : Nat} : ((x : Nat) : Int).fmod ((m : Nat) : Int) = ((x % m : Nat) : Int) := by rw [Int.fmod_eq_emod_of_nonneg _ (Int.natCast_nonneg _)]; rfl
theorem fdivN (m : Nat) {x : Nat} : ((x : Nat) : Int).fdiv ((m : Nat) : Int) = ((x / m : Nat) : Int) := by rw [Int.fdiv_eq_ediv_of_nonneg _ (Int.natCast_nonneg _)]; rfl
theorem Bin.pow80 {C : Ct} {n : Nat} {H : List HObj} {e : Nat} (h : e ≤ 100) : Bin C n .Pow (.int 80) (nI e) H H (.int ((80 ^ e : Nat) : Int)) := by
 have q := Bin.pow (C := C) (n := n) (H := H) (a := 80) (b := ((e : Nat) : Int)) (Int.natCast_nonneg _) (by lia) (by decide)
 rw [Int.toNat_natCast] at q
 rw [Int.natCast_pow]; exact q
theorem p80 {i : Nat} (h : i < 18) : ((80 ^ (i / 6) : Nat) : Int) ≠ 0 ∧ ((80 ^ (i / 6) : Nat) : Int).natAbs.log2 < 9000 := by
 have : i / 6 = 0 ∨ i / 6 = 1 ∨ i / 6 = 2 := by lia
 rcases this with e | e | e <;> rw [e] <;> decide
theorem qQ_at (x : Nat) : ∃ c, (Str.ofString "qQ").cps[x / 10 % 2]? = some c ∧ ∀ k, tok k ++ (⟨#[c]⟩ : Str) = nameOf k (greatB x) := by
 unfold greatB
 have : x / 10 % 2 = 0 ∨ x / 10 % 2 = 1 := by lia
 rcases this with e | e <;> rw [e]
 ·exact ⟨113, by decide, fun k => rfl⟩
 ·exact ⟨81, by decide, fun k => rfl⟩
theorem rng0_at {b i : Nat} {v : V} (h : (rngL 0 ((b : Nat) : Int))[i]? = some v) : i < b ∧ v = nI i := by
 rw [rng0, List.getElem?_map] at h
 obtain ⟨q, h1, h2⟩ := Option.map_eq_some_iff.mp h
 obtain ⟨hl, e⟩ := List.getElem?_eq_some_iff.mp h1
 rw [List.getElem_range] at e
 rw [List.length_range] at hl
 exact ⟨hl, by rw [← h2, e]⟩
theorem natV_at {l : List Nat} {m : Nat} (h : m < l.length) : (l.map nI)[((m : Nat) : Int).toNat]? = some (nI (l.getD m 0)) := by
 rw [Int.toNat_natCast, List.getElem?_map, List.getD_eq_getElem?_getD, List.getElem?_eq_getElem h]; rfl
theorem tokV_get {l : List Nat} {m : Nat} (h : m < l.length) : (tokV l)[((m : Nat) : Int).toNat]? = some (.str (tok (l.getD m 0))) := by
 rw [Int.toNat_natCast, List.getElem?_map, List.getD_eq_getElem?_getD, List.getElem?_eq_getElem h]; rfl
theorem Cmp.eqPairs {C : Ct} {n : Nat} {H : List HObj} {u v : V} {xs ys : List (Str × Str)} (h1 : Lsy H u (xs.map fun p => V.tup [.str p.1, .str p.2])) (h2 : Lsy H v (ys.map fun p => V.tup [.str p.1, .str p.2])) (h : xs = ys) : Cmp C n .Eq u v H true := by
 obtain ⟨bs, e1, e2⟩ := EqVs.pairs (C := C) (H := H) (congrArg List.length h)
 rw [decide_eq_true h] at e2
 rw [← e2]; exact Cmp.eqL h1 h2 e1 (by decide)
end
section
section
variable {C : Ct} {n : Nat} {H : List HObj} {i : Nat}
theorem told_app {T : List Str} {x : Str} (h : H[i]? = some (.list (toldV T))) (hl : T.length ≤ 900) : Mth C n (Str.ofString "append") (.ref i) [.tup [.str x, .str x]] H (H.set i (.list (toldV (T ++ [x])))) .none "list" "list.append" := by
 rw [← toldV_more]
 exact Mth.append h rfl (Nat.le_trans (by rw [toldV_len]; exact hl) (by decide))
theorem pair_app {P : List PT} {q : PT} (h : H[i]? = some (.list (pairsT P))) (hl : P.length ≤ 900) : Mth C n (Str.ofString "append") (.ref i) [pV q] H (H.set i (.list (pairsT (P ++ [q])))) .none "list" "list.append" := by
 rw [← pairsT_more]
 exact Mth.append h rfl (Nat.le_trans (by rw [pairsT_len]; exact hl) (by decide))
theorem add_pairs {P : List PT} {q : PT} (hl : P.length ≤ 900) : Bin C n .Add (.lst (pairsT P)) (.lst [pV q]) H (H ++ [.list (pairsT (P ++ [q]))]) (.ref H.length) := by
 rw [← pairsT_more]
 exact Bin.addLT Lsy.lst Lsy.lst (pairsT_dat P) rfl (Nat.le_trans (Nat.add_le_add_right (by rw [pairsT_len]; exact hl) _) (by decide : 900 + 1 ≤ sizeLine))
theorem Cmp.nilnil : Cmp C n .Eq (.lst []) (.lst []) H true := by
 have h := Cmp.eqInts (C := C) (n := n) (H := H) (u := .lst []) (v := .lst []) (xs := []) (ys := []) Lsy.lst Lsy.lst
 exact h
end
theorem set_l {H : List HObj} {i j : Nat} {x : Option HObj} {y : HObj} (h : H[j]? = x) (ne : i ≠ j) : (H.set i y)[j]? = x := (List.getElem?_set_ne ne).trans h
theorem none_told (T : List Str) : (T.filter fun x => !decide (x = x)).map (fun x => V.tup [.str x, .str x]) = [] := by
 rw [List.filter_eq_nil_iff.mpr fun x _ => by rw [decide_eq_true rfl]; exact Bool.false_ne_true]; rfl
noncomputable def finT (H : List HObj) (sg cl : List Nat) (m : Nat) : List Str := (sB H sg cl 18).T ++ (sg.take m).map (fstK (sB H sg cl 18).P)
noncomputable def finB (H : List HObj) (sg cl : List Nat) (m : Nat) : List HObj := (sB H sg cl 18).G.set (H.length + 3) (.list (toldV (finT H sg cl m)))
theorem grp_def (P : List PT) (k : Nat) : (P.filter fun q => decide (q.1 = k)) = grp P k := rfl
theorem low_key {q : PT} {k : Nat} {b : Bool} (hq : q.1 < 48) (hk : k < 48) : decide (Txt.lower (nameOf q.1 q.2.1) = Txt.lower (nameOf k b)) = decide (q.1 = k) := isK_name (q := q) hq hk
theorem low_key2 {q : PT} {k : Nat} (hq : q.1 < 48) (hk : k < 48) : decide (Txt.lower (nameOf q.1 q.2.1) = nameOf k false) = decide (q.1 = k) := by
 have h := low_key (q := q) (b := false) hq hk
 rw [show Txt.lower (nameOf k false) = nameOf k false from (name_ok false hk).2.1] at h
 exact h
theorem tok_len9 {k : Nat} (h : k < 48) : (tok k).length ≤ 9 := Nat.le_of_succ_le_succ (tok_len h)
theorem dB_six {cl : List Nat} {i d : Nat} (h : dB cl i = d + 1) : 6 ≤ i := by
 unfold dB at h
 by_cases q : i > 5
 ·exact q
 ·rw [if_neg q] at h; cases h
theorem fn_booked (c : C1) (H : List HObj) {sg cl : List Nat} (h6 : sg.length = 6) (h8 : cl.length = 8) (hsg : ∀ k ∈ sg, k < 48) : Fn c.ct 7 (.val (.ref 263)) [.lst (tokV sg), .lst (cl.map nI)] [] H (finB H sg cl 6) (.tup [.sem (instA 247 H.length), .ref (sB H sg cl 18).jp, .bool true]) := by
 have I := sB_inv (H := H) (cl := cl) h6 18
 have hGl := I.len
 have hP48 : ∀ q ∈ (sB H sg cl 18).P, q.1 < 48 := fun q m => hsg q.1 (I.Pin q m).1
 have hall : ∀ k ∈ sg, ∃ q ∈ (sB H sg cl 18).P, q.1 = k := fun k hk => by
  obtain ⟨m, hm⟩ := List.getElem?_of_mem hk
  have hm6 : m < 6 := h6 ▸ (List.getElem?_eq_some_iff.mp hm).1
  exact I.Pall m hm6 (by lia) k hm
 refine' fnOf (ns := ["signs", "cells"]) (vs := [.lst (tokV sg), .lst (cl.map nI)]) (o := .ret (.tup [.sem (instA 247 H.length), .ref (sB H sg cl 18).jp, .bool true]) (finB H sg cl 6)) ?ho ?hb ?hst ?hcd ?hns ?hnd ?hbind ?hbody ?hfin
 walk_at "t_of"
 case hbind => exact bind2 fun q_ q_ => Looks.of_pure rfl
 case hbody =>
  intro env hS; dsimp only at hS
  exact (Ex.cons (Es.assignS (Ev.tup (EvL.cons (Ev.call (gV (g_Headers _) (kind_of hS rfl)) EvA.nil ((fn_Headers c _).le (by decide)) (kp_Headers _)) (EvL.cons (Ev.eqv (v1 := .ref (H.length + 2)) (Ev.lstT EvL.nil (Nat.le_of_ble_eq_true rfl) (by rfl)) (by rw [List.length_append]; rfl)) (EvL.cons (Ev.eqv (v1 := .ref (H.length + 3)) (Ev.lstT EvL.nil (Nat.le_of_ble_eq_true rfl) (by rfl)) (by rw [List.length_append, List.length_append]; rfl)) EvL.nil)))) rfl (stos_cons (il hS rfl) (stos_cons (il hS rfl) (stos_cons (il hS rfl) stos_nil))) (sw_of hS (by intro e he; cases e; dsimp only at he; subst he; rfl)) (ss_of hS (by intro e he; cases e; dsimp only at he; subst he; rfl)))
 (Ex.cons (Es.for (SrcE.of (Ev.call (gB (g_range _) (kind_of hS rfl)) (EvA.args (EvL.cons Ev.int EvL.nil)) Fn.range1 Kp.typ) (Src.rng (a := 0) (b := ((18 : Nat) : Int)) (by decide) (by decide) (by decide) (by decide))) rfl (foEq (by show _ = (initB H).G; unfold initB; simp only [List.append_assoc, List.cons_append, List.nil_append]) (Fo.runsN 18 (by rfl) (fun i => [("table", .sem (instA 247 H.length)), ("pairs", .ref (sB H sg cl i).jp), ("told", .ref (H.length + 3)), ("signs", .lst (tokV sg)), ("cells", .lst (cl.map nI))]) (fun i => (sB H sg cl i).G) (subs_cons rfl (subs_cons rfl (subs_cons rfl (subs_cons rfl (subs_cons rfl subs_nil))))) rfl (fun q_ q_ => trivial) (fun i v hv => by
  obtain ⟨hi, rfl⟩ := rng0_at hv
  have I := sB_inv (H := H) (cl := cl) h6 i
  have hP48 : ∀ q ∈ (sB H sg cl i).P, q.1 < 48 := fun q m => hsg q.1 (I.Pin q m).1
  have hi6 : i % 6 < sg.length := by rw [h6]; exact Nat.mod_lt _ (by decide)
  have hkm : sg[i % 6]? = some (sg.getD (i % 6) 0) := by rw [List.getD_eq_getElem?_getD, List.getElem?_eq_getElem hi6]; rfl
  have hk48 : (sg.getD (i % 6) 0) < 48 := hsg _ (List.mem_of_getElem? hkm)
  have hGl := I.len
  obtain ⟨qc, hqc, hqn⟩ := qQ_at (xB cl i)
  have h4 : dB cl i = 0 ∨ dB cl i = 1 ∨ dB cl i = 2 ∨ dB cl i = 3 := by unfold dB; split <;> lia
  rcases h4 with hd | hd | hd | hd
  ·have ej : (sB H sg cl (i + 1)).jp = (sB H sg cl i).jp := by
    show (stepB (H.length + 1) (H.length + 3) (qB sg cl i) (dB cl i) (sB H sg cl i)).jp = _
    rw [hd]; rfl
   exact Turn.mk (Ast.name (.inr ⟨(il hS rfl), rfl⟩)) (exEq (by show _ = (stepB (H.length + 1) (H.length + 3) (qB sg cl i) (dB cl i) (sB H sg cl i)).G; rw [hd]; rfl) (Ex.cons (Es.assign (Ev.bin (Ev.sub (Ev.loc rfl) (Ev.bin (Ev.loc rfl) Ev.int (Bin.fmodE (r := ((i % 6 : Nat) : Int)) (by decide) (fmodN 6))) (Itm.lst Lsy.lst (Int.natCast_nonneg _) (by omega) (natV_at (by lia)) (fun q_ q_ => rfl))) (Ev.bin Ev.int (Ev.bin (Ev.loc rfl) Ev.int (Bin.fdivE (r := ((i / 6 : Nat) : Int)) (by decide) (by decide) (fdivN 6))) (Bin.pow80 (by lia))) (Bin.fdivE (r := (((xB cl i) : Nat) : Int)) (p80 hi).1 (p80 hi).2 (fdivN _))) (il hS rfl) rfl)
 (Ex.cons (Es.assignT (Ev.tup (EvL.cons (Ev.eqv (Ev.bin (Ev.sub (Ev.loc rfl) (Ev.bin (Ev.loc rfl) Ev.int (Bin.fmodE (r := ((i % 6 : Nat) : Int)) (by decide) (fmodN 6))) (Itm.lst Lsy.lst (Int.natCast_nonneg _) (by omega) (tokV_get (by omega)) (fun q_ q_ => rfl))) (Ev.sub Ev.str (Ev.bin (Ev.bin (Ev.loc rfl) Ev.int (Bin.fdivE (r := (((xB cl i) / 10 : Nat) : Int)) (by decide) (by decide) (fdivN 10))) Ev.int (Bin.fmodE (r := (((xB cl i) / 10 % 2 : Nat) : Int)) (by decide) (fmodN 2))) (Itm.str hqc (by lia) (fun q_ q_ => rfl))) (Bin.addS (Nat.le_trans (Nat.add_le_add_right (tok_len9 hk48) _) (by decide : 9 + 1 ≤ sizeLine)))) (congrArg V.str (hqn (sg.getD (i % 6) 0)))) (EvL.cons (Ev.call (gB (g_str _) (kind_of hS rfl)) (EvA.args (EvL.cons (Ev.bin Ev.int (Ev.bin (Ev.loc rfl) Ev.int (Bin.fmodE (r := (((xB cl i) % 10 : Nat) : Int)) (by decide) (fmodN 10))) (Bin.addE (r := ((1 + (xB cl i) % 10 : Nat) : Int)) rfl)) EvL.nil)) (Fn.strN (a := 1 + (xB cl i) % 10) (by lia)) Kp.typ) (EvL.cons (Ev.ifD (v := nI (dB cl i)) (Tst.cmp (Ev.loc rfl) Ev.int Cmp.gtI) (fun h => Ev.eqv (Ev.bin (Ev.bin (Ev.loc rfl) Ev.int (Bin.fdivE (r := (((xB cl i) / 20 : Nat) : Int)) (by decide) (by decide) (fdivN 20))) Ev.int (Bin.fmodE (r := (((xB cl i) / 20 % 4 : Nat) : Int)) (by decide) (fmodN 4))) (by have h := of_decide_eq_true h; unfold dB; rw [if_pos (by lia)])) (fun h => Ev.eqv Ev.int (by have h := of_decide_eq_false h; unfold dB; rw [if_neg (by lia)]; rfl))) EvL.nil)))) (AsL.cons (Ast.name (.inr ⟨(.inr (kind_of hS rfl)), rfl⟩)) (AsL.cons (Ast.name (.inr ⟨(il hS rfl), rfl⟩)) (AsL.cons (Ast.name (.inr ⟨(il hS rfl), rfl⟩)) AsL.nil))) (sw_of hS (by intro e he; cases e; dsimp only at he; subst he; rfl)) (ss_of hS (by intro e he; cases e; dsimp only at he; subst he; rfl)))
 (Ex.one (Es.ifTb (Tst.cmp (Ev.loc rfl) Ev.int Cmp.eqI) (by rw [hd]; rfl) (Ex.cons (Es.expr (Ev.hdr (hm_add_header _) (Ev.loc rfl) I.own (EvA.args (EvL.cons (Ev.loc rfl) (EvL.cons (Ev.loc rfl) EvL.nil))) ((tb_add (k := (sg.getD (i % 6) 0)) (b := (greatB (xB cl i))) (a := 1 + (xB cl i) % 10) c _ I.own I.hl (by have := I.Plen; lia) hP48 hk48 (by omega)).le (by decide)) rfl rfl) (in_of hS (by intro e he; cases e; dsimp only at he; subst he; rfl)) rfl)
 (Ex.one (Es.expr (Ev.meth (Ev.loc rfl) (EvL.cons (Ev.tup (EvL.cons (Ev.loc rfl) (EvL.cons (Ev.loc rfl) EvL.nil))) EvL.nil) (pair_app (q := (qB sg cl i)) (i := (sB H sg cl i).jp) (set_l I.pj I.ne1.symm) (by have := I.Plen; omega)) (Typ.lst (.ref (set_l I.pj I.ne1.symm))) rfl rfl rfl rfl (fun q_ q_ q_ q_ q_ h => Calls.evalArgs_plain h)) (in_of hS (by intro e he; cases e; dsimp only at he; subst he; rfl)) rfl)))))))) (subs_cons rfl (subs_cons (by rw [ej]; rfl) (subs_cons rfl (subs_cons rfl (subs_cons rfl subs_nil)))))
  ·have ej : (sB H sg cl (i + 1)).jp = (sB H sg cl i).jp := by
    show (stepB (H.length + 1) (H.length + 3) (qB sg cl i) (dB cl i) (sB H sg cl i)).jp = _
    rw [hd]; rfl
   exact Turn.mk (Ast.name (.inr ⟨(il hS rfl), rfl⟩)) (exEq (by show _ = (stepB (H.length + 1) (H.length + 3) (qB sg cl i) (dB cl i) (sB H sg cl i)).G; rw [hd]; rfl) (Ex.cons (Es.assign (Ev.bin (Ev.sub (Ev.loc rfl) (Ev.bin (Ev.loc rfl) Ev.int (Bin.fmodE (r := ((i % 6 : Nat) : Int)) (by decide) (fmodN 6))) (Itm.lst Lsy.lst (Int.natCast_nonneg _) (by omega) (natV_at (by omega)) (fun q_ q_ => rfl))) (Ev.bin Ev.int (Ev.bin (Ev.loc rfl) Ev.int (Bin.fdivE (r := ((i / 6 : Nat) : Int)) (by decide) (by decide) (fdivN 6))) (Bin.pow80 (by omega))) (Bin.fdivE (r := (((xB cl i) : Nat) : Int)) (p80 hi).1 (p80 hi).2 (fdivN _))) (il hS rfl) rfl)
 (Ex.cons (Es.assignT (Ev.tup (EvL.cons (Ev.eqv (Ev.bin (Ev.sub (Ev.loc rfl) (Ev.bin (Ev.loc rfl) Ev.int (Bin.fmodE (r := ((i % 6 : Nat) : Int)) (by decide) (fmodN 6))) (Itm.lst Lsy.lst (Int.natCast_nonneg _) (by omega) (tokV_get (by omega)) (fun q_ q_ => rfl))) (Ev.sub Ev.str (Ev.bin (Ev.bin (Ev.loc rfl) Ev.int (Bin.fdivE (r := (((xB cl i) / 10 : Nat) : Int)) (by decide) (by decide) (fdivN 10))) Ev.int (Bin.fmodE (r := (((xB cl i) / 10 % 2 : Nat) : Int)) (by decide) (fmodN 2))) (Itm.str hqc (by omega) (fun q_ q_ => rfl))) (Bin.addS (Nat.le_trans (Nat.add_le_add_right (tok_len9 hk48) _) (by decide : 9 + 1 ≤ sizeLine)))) (congrArg V.str (hqn (sg.getD (i % 6) 0)))) (EvL.cons (Ev.call (gB (g_str _) (kind_of hS rfl)) (EvA.args (EvL.cons (Ev.bin Ev.int (Ev.bin (Ev.loc rfl) Ev.int (Bin.fmodE (r := (((xB cl i) % 10 : Nat) : Int)) (by decide) (fmodN 10))) (Bin.addE (r := ((1 + (xB cl i) % 10 : Nat) : Int)) rfl)) EvL.nil)) (Fn.strN (a := 1 + (xB cl i) % 10) (by omega)) Kp.typ) (EvL.cons (Ev.ifD (v := nI (dB cl i)) (Tst.cmp (Ev.loc rfl) Ev.int Cmp.gtI) (fun h => Ev.eqv (Ev.bin (Ev.bin (Ev.loc rfl) Ev.int (Bin.fdivE (r := (((xB cl i) / 20 : Nat) : Int)) (by decide) (by decide) (fdivN 20))) Ev.int (Bin.fmodE (r := (((xB cl i) / 20 % 4 : Nat) : Int)) (by decide) (fmodN 4))) (by have h := of_decide_eq_true h; unfold dB; rw [if_pos (by omega)])) (fun h => Ev.eqv Ev.int (by have h := of_decide_eq_false h; unfold dB; rw [if_neg (by omega)]; rfl))) EvL.nil)))) (AsL.cons (Ast.name (.inr ⟨(.inr (kind_of hS rfl)), rfl⟩)) (AsL.cons (Ast.name (.inr ⟨(il hS rfl), rfl⟩)) (AsL.cons (Ast.name (.inr ⟨(il hS rfl), rfl⟩)) AsL.nil))) (sw_of hS (by intro e he; cases e; dsimp only at he; subst he; rfl)) (ss_of hS (by intro e he; cases e; dsimp only at he; subst he; rfl)))
 (Ex.one (Es.ifFb (Tst.cmp (Ev.loc rfl) Ev.int Cmp.eqI) (by rw [hd]; rfl) (Ex.one (Es.ifTb (Tst.cmp (Ev.loc rfl) Ev.int Cmp.eqI) (by rw [hd]; rfl) (Ex.one (Es.expr (Ev.meth (Ev.loc rfl) (EvL.cons (Ev.tup (EvL.cons (Ev.hdr (hm_setdefault _) (Ev.loc rfl) I.own (EvA.args (EvL.cons (Ev.loc rfl) (EvL.cons (Ev.loc rfl) EvL.nil))) ((tb_setdefault (k := (sg.getD (i % 6) 0)) (b := (greatB (xB cl i))) c _ I.own I.hl (by have := I.Plen; omega) hP48 hk48 (I.Pall (i % 6) (Nat.mod_lt _ (by decide)) (by have := dB_six hd; lia) (sg.getD (i % 6) 0) hkm)).le (by decide)) rfl rfl) (EvL.cons (Ev.sub (Ev.compS hS (SrcE.of (Ev.loc rfl) (Src.lst (.ref I.pj))) rfl (fun q_ => (Lsy.ref I.pj).app) (by kernel_rfl) (fun cenv hC1 => (Co.pick (f := pV) (p := fun q => decide (q.1 = (sg.getD (i % 6) 0))) (g := fun q => .str (numS q.2.2)) (fun q hq => ⟨_, (fun K => (Ast.tup (AsL.cons (Ast.name (.inl ⟨kind_of hC1 rfl, rfl⟩)) (AsL.cons (Ast.name (.inl ⟨kind_of hC1 rfl, rfl⟩)) AsL.nil)) locals_nonSeq)), (fun K => (TstL.one (Tst.eqb (Tst.cmp (Ev.meth0 (Ev.loc rfl) (Mth.lower (name_len _ (hP48 q hq))) Typ.str rfl rfl) (Ev.meth0 (Ev.loc rfl) (Mth.lower (name_len _ hk48)) Typ.str rfl rfl) Cmp.eqS) (low_key (hP48 q hq) hk48)))), (fun q_ => ⟨(fun K => (Ev.loc rfl)), rfl⟩), (sub_two rfl rfl)⟩))) (by rw [pairsT_len, sizeLine_eq]; have := I.Plen; lia) (fun q_ q_ => rfl) (Nat.le_refl _)) Ev.int (Itm.lst (v := .str (fstK (sB H sg cl i).P (sg.getD (i % 6) 0))) Lsy.lst (by decide) (by decide) (by obtain ⟨q, _, h2, r, h3⟩ := find_some (I.Pall (i % 6) (Nat.mod_lt _ (by decide)) (by have := dB_six hd; omega) (sg.getD (i % 6) 0) hkm); rw [h2, grp_def, h3]; rfl) (fun q_ q_ => rfl))) EvL.nil))) EvL.nil) (told_app I.tl (by have := I.Tlen; lia)) (Typ.lst (.ref I.tl)) rfl rfl rfl rfl (fun q_ q_ q_ q_ q_ h => Calls.evalArgs_plain h)) (in_of hS (by intro e he; cases e; dsimp only at he; subst he; rfl)) rfl))))))))) (subs_cons rfl (subs_cons (by rw [ej]; rfl) (subs_cons rfl (subs_cons rfl (subs_cons rfl subs_nil)))))
  ·have ej : (sB H sg cl (i + 1)).jp = (sB H sg cl i).G.length := by
    show (stepB (H.length + 1) (H.length + 3) (qB sg cl i) (dB cl i) (sB H sg cl i)).jp = _
    rw [hd]; rfl
   exact Turn.mk (Ast.name (.inr ⟨(il hS rfl), rfl⟩)) (exEq (by show _ = (stepB (H.length + 1) (H.length + 3) (qB sg cl i) (dB cl i) (sB H sg cl i)).G; rw [hd]; rfl) (Ex.cons (Es.assign (Ev.bin (Ev.sub (Ev.loc rfl) (Ev.bin (Ev.loc rfl) Ev.int (Bin.fmodE (r := ((i % 6 : Nat) : Int)) (by decide) (fmodN 6))) (Itm.lst Lsy.lst (Int.natCast_nonneg _) (by omega) (natV_at (by omega)) (fun q_ q_ => rfl))) (Ev.bin Ev.int (Ev.bin (Ev.loc rfl) Ev.int (Bin.fdivE (r := ((i / 6 : Nat) : Int)) (by decide) (by decide) (fdivN 6))) (Bin.pow80 (by omega))) (Bin.fdivE (r := (((xB cl i) : Nat) : Int)) (p80 hi).1 (p80 hi).2 (fdivN _))) (il hS rfl) rfl)
 (Ex.cons (Es.assignT (Ev.tup (EvL.cons (Ev.eqv (Ev.bin (Ev.sub (Ev.loc rfl) (Ev.bin (Ev.loc rfl) Ev.int (Bin.fmodE (r := ((i % 6 : Nat) : Int)) (by decide) (fmodN 6))) (Itm.lst Lsy.lst (Int.natCast_nonneg _) (by omega) (tokV_get (by omega)) (fun q_ q_ => rfl))) (Ev.sub Ev.str (Ev.bin (Ev.bin (Ev.loc rfl) Ev.int (Bin.fdivE (r := (((xB cl i) / 10 : Nat) : Int)) (by decide) (by decide) (fdivN 10))) Ev.int (Bin.fmodE (r := (((xB cl i) / 10 % 2 : Nat) : Int)) (by decide) (fmodN 2))) (Itm.str hqc (by omega) (fun q_ q_ => rfl))) (Bin.addS (Nat.le_trans (Nat.add_le_add_right (tok_len9 hk48) _) (by decide : 9 + 1 ≤ sizeLine)))) (congrArg V.str (hqn (sg.getD (i % 6) 0)))) (EvL.cons (Ev.call (gB (g_str _) (kind_of hS rfl)) (EvA.args (EvL.cons (Ev.bin Ev.int (Ev.bin (Ev.loc rfl) Ev.int (Bin.fmodE (r := (((xB cl i) % 10 : Nat) : Int)) (by decide) (fmodN 10))) (Bin.addE (r := ((1 + (xB cl i) % 10 : Nat) : Int)) rfl)) EvL.nil)) (Fn.strN (a := 1 + (xB cl i) % 10) (by omega)) Kp.typ) (EvL.cons (Ev.ifD (v := nI (dB cl i)) (Tst.cmp (Ev.loc rfl) Ev.int Cmp.gtI) (fun h => Ev.eqv (Ev.bin (Ev.bin (Ev.loc rfl) Ev.int (Bin.fdivE (r := (((xB cl i) / 20 : Nat) : Int)) (by decide) (by decide) (fdivN 20))) Ev.int (Bin.fmodE (r := (((xB cl i) / 20 % 4 : Nat) : Int)) (by decide) (fmodN 4))) (by have h := of_decide_eq_true h; unfold dB; rw [if_pos (by omega)])) (fun h => Ev.eqv Ev.int (by have h := of_decide_eq_false h; unfold dB; rw [if_neg (by omega)]; rfl))) EvL.nil)))) (AsL.cons (Ast.name (.inr ⟨(.inr (kind_of hS rfl)), rfl⟩)) (AsL.cons (Ast.name (.inr ⟨(il hS rfl), rfl⟩)) (AsL.cons (Ast.name (.inr ⟨(il hS rfl), rfl⟩)) AsL.nil))) (sw_of hS (by intro e he; cases e; dsimp only at he; subst he; rfl)) (ss_of hS (by intro e he; cases e; dsimp only at he; subst he; rfl)))
 (Ex.one (Es.ifFb (Tst.cmp (Ev.loc rfl) Ev.int Cmp.eqI) (by rw [hd]; rfl) (Ex.one (Es.ifFb (Tst.cmp (Ev.loc rfl) Ev.int Cmp.eqI) (by rw [hd]; rfl) (Ex.cons (Es.assign (Ev.bin (Ev.eqv (v1 := .lst (pairsT (noK (sB H sg cl i).P (sg.getD (i % 6) 0)))) (Ev.compS hS (SrcE.of (Ev.loc rfl) (Src.lst (.ref I.pj))) rfl (fun q_ => (Lsy.ref I.pj).app) (by kernel_rfl) (fun cenv hC2 => (Co.pick (f := pV) (p := fun q => !decide (q.1 = (sg.getD (i % 6) 0))) (g := fun q => pV q) (fun q hq => ⟨_, (fun K => (Ast.name (.inl ⟨kind_of hC2 rfl, rfl⟩))), (fun K => (TstL.one (Tst.eqb (Tst.cmp (Ev.meth0 (Ev.sub (Ev.loc rfl) Ev.int (Itm.tup (j := 0) (by decide) (by decide) rfl rfl (fun q_ q_ => rfl))) (Mth.lower (name_len _ (hP48 q hq))) Typ.str rfl rfl) (Ev.meth0 (Ev.loc rfl) (Mth.lower (name_len _ hk48)) Typ.str rfl rfl) Cmp.neS) (congrArg (!·) (low_key (hP48 q hq) hk48))))), (fun q_ => ⟨(fun K => (Ev.loc rfl)), rfl⟩), (sub_cons rfl)⟩))) (by rw [pairsT_len, sizeLine_eq]; have := I.Plen; omega) (fun q_ q_ => rfl) (Nat.le_refl _)) rfl) (Ev.lst (EvL.cons (Ev.tup (EvL.cons (Ev.loc rfl) (EvL.cons (Ev.loc rfl) EvL.nil))) EvL.nil)) (add_pairs (P := noK (sB H sg cl i).P (sg.getD (i % 6) 0)) (q := (qB sg cl i)) (Nat.le_trans (noK_len _ _) (by have := I.Plen; omega)))) (il hS rfl) rfl)
 (Ex.one (Es.ifTb (Tst.cmp (Ev.loc rfl) Ev.int Cmp.eqI) (by rw [hd]; rfl) (Ex.one (Es.setI (Ev.loc rfl) (Ev.loc rfl) (Ev.loc rfl) (getElem?_append_some I.own) (hm_noseq c) (hm_set c) (hm_setT c) ((tb_setitem (k := (sg.getD (i % 6) 0)) (b := (greatB (xB cl i))) (a := 1 + (xB cl i) % 10) c _ (getElem?_append_some I.own) (getElem?_append_some I.hl) (by have := I.Plen; omega) hP48 hk48 (by omega)).le (by decide)) rfl)))))))))))) (subs_cons rfl (subs_cons (by rw [ej]; rfl) (subs_cons rfl (subs_cons rfl (subs_cons rfl subs_nil)))))
  ·have ej : (sB H sg cl (i + 1)).jp = (sB H sg cl i).G.length := by
    show (stepB (H.length + 1) (H.length + 3) (qB sg cl i) (dB cl i) (sB H sg cl i)).jp = _
    rw [hd]; rfl
   exact Turn.mk (Ast.name (.inr ⟨(il hS rfl), rfl⟩)) (exEq (by show _ = (stepB (H.length + 1) (H.length + 3) (qB sg cl i) (dB cl i) (sB H sg cl i)).G; rw [hd]; rfl) (Ex.cons (Es.assign (Ev.bin (Ev.sub (Ev.loc rfl) (Ev.bin (Ev.loc rfl) Ev.int (Bin.fmodE (r := ((i % 6 : Nat) : Int)) (by decide) (fmodN 6))) (Itm.lst Lsy.lst (Int.natCast_nonneg _) (by omega) (natV_at (by omega)) (fun q_ q_ => rfl))) (Ev.bin Ev.int (Ev.bin (Ev.loc rfl) Ev.int (Bin.fdivE (r := ((i / 6 : Nat) : Int)) (by decide) (by decide) (fdivN 6))) (Bin.pow80 (by omega))) (Bin.fdivE (r := (((xB cl i) : Nat) : Int)) (p80 hi).1 (p80 hi).2 (fdivN _))) (il hS rfl) rfl)
 (Ex.cons (Es.assignT (Ev.tup (EvL.cons (Ev.eqv (Ev.bin (Ev.sub (Ev.loc rfl) (Ev.bin (Ev.loc rfl) Ev.int (Bin.fmodE (r := ((i % 6 : Nat) : Int)) (by decide) (fmodN 6))) (Itm.lst Lsy.lst (Int.natCast_nonneg _) (by omega) (tokV_get (by omega)) (fun q_ q_ => rfl))) (Ev.sub Ev.str (Ev.bin (Ev.bin (Ev.loc rfl) Ev.int (Bin.fdivE (r := (((xB cl i) / 10 : Nat) : Int)) (by decide) (by decide) (fdivN 10))) Ev.int (Bin.fmodE (r := (((xB cl i) / 10 % 2 : Nat) : Int)) (by decide) (fmodN 2))) (Itm.str hqc (by omega) (fun q_ q_ => rfl))) (Bin.addS (Nat.le_trans (Nat.add_le_add_right (tok_len9 hk48) _) (by decide : 9 + 1 ≤ sizeLine)))) (congrArg V.str (hqn (sg.getD (i % 6) 0)))) (EvL.cons (Ev.call (gB (g_str _) (kind_of hS rfl)) (EvA.args (EvL.cons (Ev.bin Ev.int (Ev.bin (Ev.loc rfl) Ev.int (Bin.fmodE (r := (((xB cl i) % 10 : Nat) : Int)) (by decide) (fmodN 10))) (Bin.addE (r := ((1 + (xB cl i) % 10 : Nat) : Int)) rfl)) EvL.nil)) (Fn.strN (a := 1 + (xB cl i) % 10) (by omega)) Kp.typ) (EvL.cons (Ev.ifD (v := nI (dB cl i)) (Tst.cmp (Ev.loc rfl) Ev.int Cmp.gtI) (fun h => Ev.eqv (Ev.bin (Ev.bin (Ev.loc rfl) Ev.int (Bin.fdivE (r := (((xB cl i) / 20 : Nat) : Int)) (by decide) (by decide) (fdivN 20))) Ev.int (Bin.fmodE (r := (((xB cl i) / 20 % 4 : Nat) : Int)) (by decide) (fmodN 4))) (by have h := of_decide_eq_true h; unfold dB; rw [if_pos (by omega)])) (fun h => Ev.eqv Ev.int (by have h := of_decide_eq_false h; unfold dB; rw [if_neg (by omega)]; rfl))) EvL.nil)))) (AsL.cons (Ast.name (.inr ⟨(.inr (kind_of hS rfl)), rfl⟩)) (AsL.cons (Ast.name (.inr ⟨(il hS rfl), rfl⟩)) (AsL.cons (Ast.name (.inr ⟨(il hS rfl), rfl⟩)) AsL.nil))) (sw_of hS (by intro e he; cases e; dsimp only at he; subst he; rfl)) (ss_of hS (by intro e he; cases e; dsimp only at he; subst he; rfl)))
 (Ex.one (Es.ifFb (Tst.cmp (Ev.loc rfl) Ev.int Cmp.eqI) (by rw [hd]; rfl) (Ex.one (Es.ifFb (Tst.cmp (Ev.loc rfl) Ev.int Cmp.eqI) (by rw [hd]; rfl) (Ex.cons (Es.assign (Ev.bin (Ev.eqv (v1 := .lst (pairsT (noK (sB H sg cl i).P (sg.getD (i % 6) 0)))) (Ev.compS hS (SrcE.of (Ev.loc rfl) (Src.lst (.ref I.pj))) rfl (fun q_ => (Lsy.ref I.pj).app) (by kernel_rfl) (fun cenv hC2 => (Co.pick (f := pV) (p := fun q => !decide (q.1 = (sg.getD (i % 6) 0))) (g := fun q => pV q) (fun q hq => ⟨_, (fun K => (Ast.name (.inl ⟨kind_of hC2 rfl, rfl⟩))), (fun K => (TstL.one (Tst.eqb (Tst.cmp (Ev.meth0 (Ev.sub (Ev.loc rfl) Ev.int (Itm.tup (j := 0) (by decide) (by decide) rfl rfl (fun q_ q_ => rfl))) (Mth.lower (name_len _ (hP48 q hq))) Typ.str rfl rfl) (Ev.meth0 (Ev.loc rfl) (Mth.lower (name_len _ hk48)) Typ.str rfl rfl) Cmp.neS) (congrArg (!·) (low_key (hP48 q hq) hk48))))), (fun q_ => ⟨(fun K => (Ev.loc rfl)), rfl⟩), (sub_cons rfl)⟩))) (by rw [pairsT_len, sizeLine_eq]; have := I.Plen; omega) (fun q_ q_ => rfl) (Nat.le_refl _)) rfl) (Ev.lst (EvL.cons (Ev.tup (EvL.cons (Ev.loc rfl) (EvL.cons (Ev.loc rfl) EvL.nil))) EvL.nil)) (add_pairs (P := noK (sB H sg cl i).P (sg.getD (i % 6) 0)) (q := (qB sg cl i)) (Nat.le_trans (noK_len _ _) (by have := I.Plen; omega)))) (il hS rfl) rfl)
 (Ex.one (Es.ifFb (Tst.cmp (Ev.loc rfl) Ev.int Cmp.eqI) (by rw [hd]; rfl) (Ex.cons (Es.delI (Ev.loc rfl) (Ev.eqv (Ev.meth0 (Ev.loc rfl) (Mth.swapcase (name_len _ hk48)) Typ.str rfl rfl) (congrArg V.str (name_ok (greatB (xB cl i)) hk48).2.2.2.2)) (getElem?_append_some I.own) (hm_noseq c) (hm_del c) (hm_delT c) ((tb_del (k := (sg.getD (i % 6) 0)) (b := !(greatB (xB cl i))) c _ (getElem?_append_some I.own) (getElem?_append_some I.hl) (by have := I.Plen; omega) hP48 hk48).le (by decide)))
 (Ex.cons (Es.expr (Ev.meth (Ev.loc rfl) (EvL.cons (Ev.tup (EvL.cons (Ev.hdr (hm_get _) (Ev.loc rfl) (set_ne (getElem?_append_some I.own) (getElem?_append_some I.hl)) (EvA.args (EvL.cons (Ev.loc rfl) (EvL.cons Ev.str EvL.nil))) ((tb_get_no (k := (sg.getD (i % 6) 0)) (b := (greatB (xB cl i))) c _ (set_ne (getElem?_append_some I.own) (getElem?_append_some I.hl)) (set_at (getElem?_append_some I.hl)) (Nat.le_trans (noK_len _ _) (by have := I.Plen; omega)) (fun p m => hP48 p (mem_noK m)) hk48 (no_noK hk48 hP48)).le (by decide)) rfl rfl) (EvL.cons Ev.str EvL.nil))) EvL.nil) (told_app (set_l (getElem?_append_some I.tl) (by lia)) (by have := I.Tlen; omega)) (Typ.lst (.ref (set_l (getElem?_append_some I.tl) (by omega)))) rfl rfl rfl rfl (fun q_ q_ q_ q_ q_ h => Calls.evalArgs_plain h)) (in_of hS (by intro e he; cases e; dsimp only at he; subst he; rfl)) rfl)
 (Ex.one (Es.expr (Ev.meth (Ev.loc rfl) (EvL.cons (Ev.tup (EvL.cons (Ev.hdr (hm_setdefault _) (Ev.loc rfl) (set_ne (set_ne (getElem?_append_some I.own) (getElem?_append_some I.hl)) (set_l (getElem?_append_some I.tl) (by omega))) (EvA.args (EvL.cons (Ev.loc rfl) (EvL.cons (Ev.loc rfl) EvL.nil))) ((tb_setdefault_no (k := (sg.getD (i % 6) 0)) (b := (greatB (xB cl i))) (a := 1 + (xB cl i) % 10) c _ (set_ne (set_ne (getElem?_append_some I.own) (getElem?_append_some I.hl)) (set_l (getElem?_append_some I.tl) (by omega))) (set_l (set_at (getElem?_append_some I.hl)) (by lia)) (Nat.le_trans (noK_len _ _) (by have := I.Plen; omega)) (fun p m => hP48 p (mem_noK m)) hk48 (by omega) (no_noK hk48 hP48)).le (by decide)) rfl rfl) (EvL.cons (Ev.loc rfl) EvL.nil))) EvL.nil) (told_app (set_l (set_at (set_l (getElem?_append_some I.tl) (by omega))) (by omega)) (by rw [List.length_append, List.length_singleton]; have := I.Tlen; lia)) (Typ.lst (.ref (set_at (set_l (getElem?_append_some I.tl) (by omega))))) rfl rfl rfl rfl (fun q_ q_ q_ q_ q_ h => Calls.evalArgs_plain h)) (in_of hS (by intro e he; cases e; dsimp only at he; subst he; rfl)) rfl)))))))))))))) (subs_cons rfl (subs_cons (by rw [ej]; rfl) (subs_cons rfl (subs_cons rfl (subs_cons rfl subs_nil)))))))) (fun q_ q_ => rfl))
 (Ex.cons (Es.for (SrcE.of (Ev.loc rfl) (Src.lst Lsy.lst)) rfl (foEq (by unfold finB finT; rw [List.take_zero, List.map_nil, List.append_nil]; exact (set_self I.tl).symm) (Fo.runsN 6 (by rw [List.length_map]; exact h6) (fun _ => [("table", .sem (instA 247 H.length)), ("pairs", .ref (sB H sg cl 18).jp), ("told", .ref (H.length + 3)), ("signs", .lst (tokV sg)), ("cells", .lst (cl.map nI))]) (fun m => finB H sg cl m) (subs_cons rfl (subs_cons rfl (subs_cons rfl (subs_cons rfl (subs_cons rfl subs_nil))))) rfl (fun q_ q_ => Lsy.lst) (fun m v hv => by
  obtain ⟨k, hki, rfl⟩ := tokV_at hv
  have hk : k ∈ sg := List.mem_of_getElem? hki
  have hk48 := hsg k hk
  exact Turn.mk (Ast.name (.inr ⟨(.inr (kind_of hS rfl)), rfl⟩)) (exEq (by unfold finB finT; rw [set_set, take_moreN hki, List.map_append, List.append_assoc]; rfl) (Ex.one (Es.expr (Ev.meth (Ev.loc rfl) (EvL.cons (Ev.tup (EvL.cons (Ev.hdr (hm_setdefault _) (Ev.loc rfl) (set_ne I.own I.tl) (EvA.args (EvL.cons (Ev.bin (Ev.loc rfl) Ev.str (Bin.addS (Nat.le_trans (tok_len hk48) (by decide)))) (EvL.cons Ev.str EvL.nil))) ((tb_setdefault (k := k) (b := true) c _ (set_ne I.own I.tl) (set_l I.hl (by omega)) (by have := I.Plen; lia) hP48 hk48 (hall k hk)).le (by decide)) rfl rfl) (EvL.cons (Ev.sub (Ev.compS hS (SrcE.of (Ev.loc rfl) (Src.lst (.ref (set_l I.pj I.ne2.symm)))) rfl (fun q_ => (Lsy.ref (set_l I.pj I.ne2.symm)).app) (by kernel_rfl) (fun cenv hC4 => (Co.pick (f := pV) (p := fun q => decide (q.1 = k)) (g := fun q => .str (numS q.2.2)) (fun q hq => ⟨_, (fun K => (Ast.tup (AsL.cons (Ast.name (.inl ⟨kind_of hC4 rfl, rfl⟩)) (AsL.cons (Ast.name (.inl ⟨kind_of hC4 rfl, rfl⟩)) AsL.nil)) locals_nonSeq)), (fun K => (TstL.one (Tst.eqb (Tst.cmp (Ev.meth0 (Ev.loc rfl) (Mth.lower (name_len _ (hP48 q hq))) Typ.str rfl rfl) (Ev.bin (Ev.loc rfl) Ev.str (Bin.addS (Nat.le_trans (tok_len hk48) (by decide)))) Cmp.eqS) (low_key2 (hP48 q hq) hk48)))), (fun q_ => ⟨(fun K => (Ev.loc rfl)), rfl⟩), (sub_two rfl rfl)⟩))) (by rw [pairsT_len, sizeLine_eq]; have := I.Plen; lia) (fun q_ q_ => rfl) (Nat.le_refl _)) Ev.int (Itm.lst (v := .str (fstK (sB H sg cl 18).P k)) Lsy.lst (by decide) (by decide) (by obtain ⟨q, _, h2, r, h3⟩ := find_some (hall k hk); rw [h2, grp_def, h3]; rfl) (fun q_ q_ => rfl))) EvL.nil))) EvL.nil) (told_app (set_at I.tl) (by unfold finT; rw [List.length_append, List.length_map, List.length_take]; have := I.Tlen; lia)) (Typ.lst (.ref (set_at I.tl))) rfl rfl rfl rfl (fun q_ q_ q_ q_ q_ h => Calls.evalArgs_plain h)) (in_of hS (by intro e he; cases e; dsimp only at he; subst he; rfl)) rfl))) (subs_cons rfl (subs_cons rfl (subs_cons rfl (subs_cons rfl (subs_cons rfl subs_nil)))))))) (fun q_ q_ => rfl))
 (Ex.stop (Es.ret (Ev.tup (EvL.cons (Ev.loc rfl) (EvL.cons (Ev.loc rfl) (EvL.cons (Ev.boolOp (BoV.nextb (Ev.cmp (Ev.hdr (hm_items _) (Ev.loc rfl) (set_ne I.own I.tl) EvA.nil ((tb_items c _ (set_ne I.own I.tl) (set_l I.hl (by lia)) (by have := I.Plen; lia)).le (by decide)) rfl rfl) (Ev.loc rfl) (Cmp.eqPairs (xs := (sB H sg cl 18).P.map pairS) (ys := (sB H sg cl 18).P.map pairS) (by rw [List.map_map]; exact Lsy.lst) (by rw [List.map_map]; exact .ref (set_l I.pj I.ne2.symm)) rfl) rfl) Tru.bool rfl (BoV.one (Ev.cmp (Ev.eqv (v1 := .lst []) (Ev.compS hS (SrcE.of (Ev.loc rfl) (Src.lst (.ref (set_at I.tl)))) rfl (fun q_ => (Lsy.ref (set_at I.tl)).app) (by kernel_rfl) (fun cenv hC3 => (Co.pick (f := fun x => V.tup [.str x, .str x]) (p := fun x => !decide (x = x)) (g := fun x => V.tup [.str x, .str x]) (fun x hx => ⟨_, (fun K => (Ast.name (.inl ⟨kind_of hC3 rfl, rfl⟩))), (fun K => (TstL.one (Tst.cmp (Ev.sub (Ev.loc rfl) Ev.int (Itm.tup (j := 0) (by decide) (by decide) rfl rfl (fun q_ q_ => rfl))) (Ev.sub (Ev.loc rfl) Ev.int (Itm.tup (j := 1) (by decide) (by decide) rfl rfl (fun q_ q_ => rfl))) Cmp.neS))), (fun q_ => ⟨(fun K => (Ev.loc rfl)), rfl⟩), (sub_cons rfl)⟩))) (by rw [toldV_len, sizeLine_eq]; unfold finT; rw [List.length_append, List.length_map, List.length_take]; have := I.Tlen; lia) (fun q_ q_ => rfl) (Nat.le_refl _)) (congrArg V.lst (none_told _))) (Ev.lst EvL.nil) Cmp.nilnil rfl)) (fun q_ => rfl))) EvL.nil))))) (by intro _ _ h; cases h)))))
 case hfin => first | exact Fin.ret | exact Fin.next
end
noncomputable def sgF (e : Nat) : List Nat := (List.range 6).map fun k => (e + k * (1 + e / 48 % 11)) % 48
theorem sg_len (e : Nat) : (sgF e).length = 6 := by unfold sgF; rw [List.length_map, List.length_range]
theorem sg_lt {e k : Nat} (h : k ∈ sgF e) : k < 48 := by
 obtain ⟨j, _, rfl⟩ := List.mem_map.mp h
 exact Nat.mod_lt _ (by decide)
theorem below6' {k : Nat} (h : k < 6) : k = 0 ∨ k = 1 ∨ k = 2 ∨ k = 3 ∨ k = 4 ∨ k = 5 := by lia
theorem sg_nodup (e : Nat) : (sgF e).Nodup := by
 unfold sgF List.Nodup
 rw [List.pairwise_map]
 refine List.Pairwise.imp_of_mem (R := (· < ·)) (fun {i j} mi mj hij => ?_) List.pairwise_lt_range
 have hi := List.mem_range.mp mi
 have hj := List.mem_range.mp mj
 have hs : 1 + e / 48 % 11 ≤ 11 := by lia
 have hs1 : 1 ≤ 1 + e / 48 % 11 := by exact Nat.le_add_right _ _
 generalize 1 + e / 48 % 11 = s at *
 rcases below6' hi with rfl | rfl | rfl | rfl | rfl | rfl <;> rcases below6' hj with rfl | rfl | rfl | rfl | rfl | rfl <;> lia
noncomputable def ksF (sg : List Nat) : List Nat := (List.range 48).filter fun k => decide (k ∈ sg)
theorem ks_mem {sg : List Nat} (h : ∀ k ∈ sg, k < 48) {k : Nat} : k ∈ ksF sg ↔ k ∈ sg := by
 unfold ksF
 rw [List.mem_filter, List.mem_range, decide_eq_true_eq]
 exact ⟨fun z => z.2, fun z => ⟨h k z, z⟩⟩
theorem ks_sorted (sg : List Nat) : (ksF sg).Pairwise (· < ·) := List.Pairwise.filter _ List.pairwise_lt_range
theorem ks_len {sg : List Nat} (h : ∀ k ∈ sg, k < 48) (hn : sg.Nodup) : (ksF sg).length = sg.length := by
 refine List.Perm.length_eq ((List.perm_ext_iff_of_nodup ?_ hn).mpr fun k => ks_mem h)
 exact List.Pairwise.imp (fun h => Nat.ne_of_lt h) (ks_sorted sg)
noncomputable def rwF (P : List PT) (ks : List Nat) : List (Nat × Tr) := ks.map fun k => (wgt P k, Tr.leaf (208 + k))
noncomputable abbrev keyK (k : Nat) : Int := ((208 + k : Nat) : Int)
theorem depsR_leaf (P : List PT) : ∀ (ks d : List Nat), depsR (rwF P ks) d = (ks.zip d).map fun x => (keyK x.1, ((x.2 : Nat) : Int))
 | [], _ => rfl
 | _ :: _, [] => rfl
 | k :: ks, x :: d => by
  show depsR ((wgt P k, Tr.leaf (208 + k)) :: rwF P ks) (x :: d) = _
  rw [depsR_cons, depsR_leaf P ks d]; rfl
theorem eq_of_sorted {l1 l2 : List Int} : l1.Perm l2 → l1.Pairwise (· ≤ ·) → l2.Pairwise (· < ·) → l1 = l2 := by
 induction l2 generalizing l1 with
 | nil => intro p _ _; exact p.eq_nil
 | cons b l2 ih =>
  intro p h1 h2
  cases l1 with
  | nil => exact absurd p.length_eq (by simp)
  | cons a l1 =>
   have e : a = b := by
    have ma : a ∈ b :: l2 := p.mem_iff.mp (.head _)
    have mb : b ∈ a :: l1 := p.mem_iff.mpr (.head _)
    rcases List.mem_cons.mp ma with e | ma
    ·exact e
    ·rcases List.mem_cons.mp mb with e | mb
     ·exact e.symm
     ·have z1 := (List.pairwise_cons.mp h2).1 a ma
      have z2 := (List.pairwise_cons.mp h1).1 b mb
      lia
   subst e
   rw [ih ((List.perm_cons _).mp p) (List.pairwise_cons.mp h1).2 (List.pairwise_cons.mp h2).2]
theorem sum_ten {l : List Nat} (h : ∀ x ∈ l, x ≤ 10) : l.sum ≤ 10 * l.length := by
 induction l with
 | nil => exact Nat.le_refl _
 | cons a l ih =>
  have h1 := h a (.head _)
  have h2 := ih fun x m => h x (.tail _ m)
  rw [List.sum_cons, List.length_cons]; lia
theorem getD_some {l : List Nat} {j : Nat} (h : j < l.length) : l[j]? = some (l.getD j 0) := by
 rw [List.getD_eq_getElem?_getD, List.getElem?_eq_getElem h]; rfl
structure DealW (P : List PT) (ks d : List Nat) (T : Tr) : Prop where
 k6 : ks.length = 6
 k48 : ∀ k ∈ ks, k < 48
 srt : ks.Pairwise (· < ·)
 P18 : P.length ≤ 18
 Pok : ∀ q ∈ P, q.1 < 48 ∧ q.1 ∈ ks ∧ q.2.2 ≤ 10
 row6 : (rwF P ks).length = 6
 rtop : ∀ q ∈ rwF P ks, q.2.top < 256
 tr : trR (rowN (rwF P ks) 5) 0 = T
 size : T.size = 11
 tin : T.In (prsN (rwF P ks) 5)
 nod : ((T.deps 0).map (·.1)).Nodup
 nz : ∀ q ∈ T.deps 0, q.1 ≠ 0
 len : (T.deps 0).length ≤ 6
 look0 : (T.deps 0 ++ [(0, 11)]).lookup 0 = some 11
 look : ∀ j, j < 6 → (T.deps 0 ++ [(0, 11)]).lookup (keyK (ks.getD j 0)) = some ((d.getD j 0 : Nat) : Int)
 sort : ∀ l : List Int, l.Perm ((T.deps 0 ++ [(0, 11)]).map fun p : Int × Int => p.1) → l.Pairwise (· ≤ ·) → l = 0 :: ks.map keyK
 arc : Arc d
 opt : dot d (ks.map (wgt P)) = optF 6 (ks.map (wgt P))
 small : ∀ x ∈ ks.map (wgt P), x ≤ 1000
theorem wsR_row (P : List PT) (ks : List Nat) : wsR (rwF P ks) = ks.map (wgt P) := by unfold rwF; rw [wsR, List.map_map]; rfl
theorem deal_of {P : List PT} {ks : List Nat} (k6 : ks.length = 6) (k48 : ∀ k ∈ ks, k < 48) (srt : ks.Pairwise (· < ·)) (P18 : P.length ≤ 18) (Pok : ∀ q ∈ P, q.1 < 48 ∧ q.1 ∈ ks ∧ q.2.2 ≤ 10) : DealW P ks (gwF 5 (ks.map (wgt P))) (trR (rowN (rwF P ks) 5) 0) := by
 have row6 : (rwF P ks).length = 6 := by unfold rwF; rw [List.length_map]; exact k6
 have w6 : (ks.map (wgt P)).length = 6 := by rw [List.length_map]; exact k6
 have rtop : ∀ q ∈ rwF P ks, q.2.top < 256 := fun q m => by
  obtain ⟨k, mk, rfl⟩ := List.mem_map.mp m
  have := k48 k mk
  show 208 + k < 256; lia
 have rin : ∀ q ∈ rwF P ks, q.2.In [] := fun q m => by
  obtain ⟨k, mk, rfl⟩ := List.mem_map.mp m
  have := k48 k mk
  show 1 ≤ 208 + k ∧ 208 + k < 256; lia
 have best := gw_best (f := 5) (w := ks.map (wgt P)) (by lia) (by lia) (by lia)
 have hmem : gwF 5 (ks.map (wgt P)) ∈ trees 6 := by have := best.1; rwa [w6] at this
 have A := arc_of hmem
 obtain ⟨perm, erow⟩ := deps_top row6
 rw [wsR_row, depsR_leaf] at perm
 have s6 : sizesR (rwF P ks) = 6 := by
  have : ∀ l : List Nat, sizesR (rwF P l) = l.length := fun l => by
   induction l with
   | nil => rfl
   | cons k l ih => show sizesR ((wgt P k, Tr.leaf (208 + k)) :: rwF P l) = _; rw [sizes_cons, ih, List.length_cons]; show 1 + _ = _; omega
  rw [this, k6]
 have sz := sizes_row row6 s6 5 (Nat.le_refl _)
 have hT : ∀ q ∈ rowN (rwF P ks) 5, q.2.In (prsN (rwF P ks) 5) := row_In row6 rtop rin 5 (Nat.le_refl _)
 rw [erow] at sz hT
 generalize hTT : trR (rowN (rwF P ks) 5) 0 = T at *
 generalize hd : gwF 5 (ks.map (wgt P)) = d at *
 have ez : ks.zip d = (List.range 6).map fun j => (ks.getD j 0, d.getD j 0) := by
  refine List.ext_getElem? fun j => ?_
  rw [List.getElem?_map]
  by_cases q : j < 6
  ·rw [List.getElem?_range q, (List.getElem?_zip_eq_some (z := (ks.getD j 0, d.getD j 0))).mpr ⟨getD_some (by rw [k6]; exact q), getD_some (by rw [A.len]; exact q)⟩]; rfl
  ·rw [List.getElem?_eq_none (by rw [List.length_zip, k6, A.len]; omega), List.getElem?_eq_none (by rw [List.length_range]; omega)]; rfl
 have keys : ((ks.zip d).map fun x => (keyK x.1, ((x.2 : Nat) : Int))).map (·.1) = ks.map keyK := by
  rw [List.map_map]
  have : ((fun p : Int × Int => p.1) ∘ fun x : Nat × Nat => (keyK x.1, ((x.2 : Nat) : Int))) = keyK ∘ Prod.fst := rfl
  rw [this, ← List.map_map, List.map_fst_zip (by rw [k6, A.len]; exact Nat.le_refl _)]
 have permK : ((T.deps 0).map (·.1)).Perm (ks.map keyK) := keys ▸ perm.map _
 have ltK : (ks.map keyK).Pairwise (· < ·) := List.pairwise_map.mpr (srt.imp fun h => by show ((208 + _ : Nat) : Int) < ((208 + _ : Nat) : Int); omega)
 have nodK : (ks.map keyK).Nodup := ltK.imp fun h => Int.ne_of_lt h
 have nod : ((T.deps 0).map (·.1)).Nodup := permK.nodup_iff.mpr nodK
 have nz : ∀ q ∈ T.deps 0, q.1 ≠ 0 := fun q m z => by
  have := permK.mem_iff.mp (List.mem_map.mpr ⟨q, m, rfl⟩)
  obtain ⟨k, _, e⟩ := List.mem_map.mp this
  rw [z] at e
  have e : ((208 + k : Nat) : Int) = 0 := e
  omega
 refine ⟨k6, k48, srt, P18, Pok, row6, rtop, hTT, ?_, hT _ (.head _), nod, nz, ?_, ?_, fun j hj => ?_, fun l p hl => ?_, A, ?_, fun x m => ?_⟩
 ·have : T.size + 0 = 6 + 5 := sz
  omega
 ·have := perm.length_eq
  rw [this, List.length_map, List.length_zip, k6, A.len]; decide
 ·refine look_some (fun p m e => ?_) ⟨(0, 11), List.mem_append_right _ (.head _), rfl⟩
  rcases List.mem_append.mp m with m | m
  ·exact absurd e (nz p m)
  ·obtain rfl := List.mem_singleton.mp m; rfl
 ·have hm : (keyK (ks.getD j 0), ((d.getD j 0 : Nat) : Int)) ∈ T.deps 0 := by
   rw [perm.mem_iff, ez, List.map_map]
   exact List.mem_map.mpr ⟨j, List.mem_range.mpr hj, rfl⟩
  refine look_some (fun p m e => ?_) ⟨_, List.mem_append_left _ hm, rfl⟩
  rcases List.mem_append.mp m with m | m
  ·obtain ⟨i1, hi1⟩ := List.getElem?_of_mem m
   obtain ⟨i2, hi2⟩ := List.getElem?_of_mem hm
   have l1 := (List.getElem?_eq_some_iff.mp hi1).1
   have z : i1 = i2 := (List.getElem?_inj (by rw [List.length_map]; exact l1) nod).mp (by rw [List.getElem?_map, List.getElem?_map, hi1, hi2]; exact congrArg some e)
   rw [z, hi2] at hi1
   rw [← Option.some.inj hi1]
  ·obtain rfl := List.mem_singleton.mp m
   have e : (0 : Int) = ((208 + ks.getD j 0 : Nat) : Int) := e
   omega
 ·refine eq_of_sorted (p.trans ?_) hl (List.pairwise_cons.mpr ⟨fun x m => ?_, ltK⟩)
  ·rw [List.map_append]
   exact (permK.append_right _).trans List.perm_append_comm
  ·obtain ⟨k, _, rfl⟩ := List.mem_map.mp m
   show 0 < ((208 + k : Nat) : Int); omega
 ·have := best_opt best (by omega)
  rwa [w6] at this
 ·obtain ⟨k, mk, rfl⟩ := List.mem_map.mp m
  have h1 := sum_ten (l := (grp P k).map fun q => q.2.2) fun x m => by
   obtain ⟨q, mq, rfl⟩ := List.mem_map.mp m
   exact (Pok q (mem_grp mq).1).2.2
  have h2 : (grp P k).length ≤ P.length := List.length_filter_le ..
  rw [List.length_map] at h1
  show ((grp P k).map fun q => q.2.2).sum ≤ 1000
  omega
section
open PySem.AutoSeq1 (wpAny_loadPart')
open PySem.SeqAt
open PySem.MeetsSeq3
section
variable {C : Ct} {n : Nat} {H : List HObj}
end
end
section
section
variable {C : Ct} {n : Nat} {env : Env} {σ σ' σ1 : Loc} {H H' H0 H1 H2 H3 : List HObj} {pos p pos' : Pos} {k : Nat} {x : Str} {v v1 v2 v3 : V} {e e1 e2 e3 : PySem.Expr} {o : Out} {st : PySem.Stmt} {rest body orelse : List PySem.Stmt} {X : String} {msg : Str}
theorem frames_deeper {A : Around} {outer : List Env} (h : A.frames = some outer) (env : Env) : (A.deeper env).frames = some (env :: outer) := Around.frames_deeper h
end
end
section
section
variable {C : Ct} {n : Nat} {env : Env} {σ σ' σ1 : Loc} {H H' H0 H1 H2 H3 : List HObj} {pos p pos' : Pos} {k : Nat} {x : Str} {v v1 v2 v3 : V} {e e1 e2 e3 : PySem.Expr} {o : Out} {st : PySem.Stmt} {rest body orelse : List PySem.Stmt} {X : String} {msg : Str}
theorem name_blt {A : Around} {w : Wd} {Q E : Value → Shared → Prop} {y : Value} (B : BSt C w H) (F : FSt C w env σ) (h : nsIn C.K mainGlobals x = some Option.none) (hb : bootBuiltins x = some y) (hn : x ≠ "__name__") (hx : env.kindOf x = some .globalImplicit) (hd : (x == ("__debug__" : Str)) = false) (K : Q y w.s) : wpAny C.M A (eval (.Name x pos) env) Q E w.s := by
 refine Name_function_global F.kind hx (loadGlobal_builtin (mg := C.mg) (mb := C.mb) ?_ (mg_none_of C.X C.g h) ?_ ((C.blt x hn).trans hb) K) hd
 ·rw [F.glob]; exact C.g.keeps B.stays
 ·rw [F.bltn]; exact C.b.keeps B.stays
end
end
section
section
variable {C : Ct} {n : Nat} {env : Env} {σ σ' σ1 : Loc} {H H' H0 H1 H2 H3 : List HObj} {pos p pos' : Pos} {k : Nat} {x : Str} {v v1 v2 v3 : V} {e e1 e2 e3 : PySem.Expr} {o : Out} {st : PySem.Stmt} {rest body orelse : List PySem.Stmt} {X : String} {msg : Str}
end
end
section
open Builtin Builtin.Str
open AutoSeq1 (wpAny_loadPart')
section
variable {prog : Program} {w : World} {A : Around} {E : Value → Shared → Prop} {s : Shared}
theorem next_tup {it t : Addr} {i : Nat} {items : Array Value} {x : Value} {Q : Value → Shared → Prop} (hit : s.heap.IsTupleIter it t i) (ht : s.heap.IsTuple t items) (hx : items[i]? = some x)
  (hQ : ∀ h', h'.IsTupleIter it t (i + 1) → Heap.SameBut it s.heap h' → Q x { s with heap := h' }) : wpAny (model prog w) A (Builtin.SmallTypes.nextOf (.ref it)) Q E s := by
 have hT := hit.typeIs
 obtain ⟨o, ho, hc, hd⟩ := hit
 obtain ⟨ot, hot, _, nt, hdt⟩ := ht
 unfold Builtin.SmallTypes.nextOf
 refine wpAny_bind (wpAny_callSpecial?_slot (name := Str.ofString "__next__") hT PySem.F.slot_tuple_iterator_next
  (wpAny_call_entry PySem.F.slot_tuple_iterator_next hT PySem.F.entry_tuple_iterator_next ?_ (PySem.F.args_tuple_iterator_next_1 _)))
 show wpAny _ _ (field (.ref it) 0 >>= _) _ _ s
 refine wpAny_bind (wpAny_field ho hd (x := .ref t) rfl ?_)
 show wpAny _ _ (if (Value.ref t == Value.none) = true then _ else _) _ _ s
 rw [if_neg (show ¬ ((Value.ref t == Value.none) = true) from Bool.false_ne_true)]
 show wpAny _ _ (field (.ref it) 1 >>= _) _ _ s
 refine wpAny_bind (wpAny_field ho hd (x := .int i 0) rfl ?_)
 show wpAny _ _ (seqItems? (.ref t) >>= _) _ _ s
 refine wpAny_bind (wpAny_seqItems hot hdt ?_)
 simp only [Int.toNat_natCast, hx]
 refine wpAny_bind (wpAny_setField ho hd (by simp) (wpAny_pure ⟨x, rfl, wpAny_pure (hQ _ ?_ (Heap.SameBut.update ..))⟩))
 exact ⟨_, Heap.get?_update_self _ ho (Obj.isFreed_of_fields (Obj.data_mapFields hd _)), (Obj.cls_mapFields ..).trans hc, by rw [Obj.data_mapFields hd]; simp [rawInt]⟩
theorem end_tup {it t : Addr} {i : Nat} {items : Array Value} {Q : Value → Shared → Prop} (hh : A.handled = none) (hit : s.heap.IsTupleIter it t i) (ht : s.heap.IsTuple t items) (hx : items[i]? = none)
  (hE : ∀ h' e, Heap.ExtBut it s.heap h' → (∃ o, h'.get? e = some o ∧ o.cls = .type "StopIteration") → E (.ref e) { s with heap := h' }) : wpAny (model prog w) A (Builtin.SmallTypes.nextOf (.ref it)) Q E s := by
 have hT := hit.typeIs
 obtain ⟨o, ho, hc, hd⟩ := hit
 obtain ⟨ot, hot, _, nt, hdt⟩ := ht
 unfold Builtin.SmallTypes.nextOf
 refine wpAny_bind (wpAny_callSpecial?_slot (name := Str.ofString "__next__") hT PySem.F.slot_tuple_iterator_next
  (wpAny_call_entry PySem.F.slot_tuple_iterator_next hT PySem.F.entry_tuple_iterator_next ?_ (PySem.F.args_tuple_iterator_next_1 _)))
 show wpAny _ _ (field (.ref it) 0 >>= _) _ _ s
 refine wpAny_bind (wpAny_field ho hd (x := .ref t) rfl ?_)
 show wpAny _ _ (if (Value.ref t == Value.none) = true then _ else _) _ _ s
 rw [if_neg (show ¬ ((Value.ref t == Value.none) = true) from Bool.false_ne_true)]
 show wpAny _ _ (field (.ref it) 1 >>= _) _ _ s
 refine wpAny_bind (wpAny_field ho hd (x := .int i 0) rfl ?_)
 show wpAny _ _ (seqItems? (.ref t) >>= _) _ _ s
 refine wpAny_bind (wpAny_seqItems hot hdt ?_)
 simp only [Int.toNat_natCast, hx]
 refine wpAny_bind (wpAny_rule (wpAny_bind (wpAny_setField ho hd (by simp) ?_)))
 show wpAny _ _ (newExc (.type "StopIteration") [] >>= _) _ _ _
 refine wpAny_bind ?_
 simp only [newExc, newTuple]
 refine wpAny_bind (wpAny_newObj_type ?_ (by size_fits))
 refine wpAny_bind (m := firstArgMember _ _) (wpAny_of_eq (a := Value.none) (by first | rfl | (simp only [firstArgMember]; rfl)) ?_)
 refine wpAny_newObj_type ?_ (by size_fits)
 simp only [raiseNew]
 refine wpAny_bind (wpAny_handled ?_)
 first | rw [show A.in1.handled = none from hh] | rw [hh]
 refine wpAny_bind (wpAny_pure (wpAny_throw ?_))
 exact hE _ _ (((Heap.SameBut.update ..).extBut.push _).push _) ⟨_, Heap.get?_push_size _ rfl, rfl⟩
theorem draws_tup (hh : A.handled = none) (it t : Addr) (hne : t ≠ it) (items : Array Value) :
  Draws prog w A it [it, t] items.size (fun i v => items[i]? = some v) (fun i h => h.IsTupleIter it t i ∧ h.IsTuple t items) where
 live := fun q_ q_ st => let ⟨o, ho, _⟩ := st.1; ⟨o, ho⟩
 frame := fun q_ q_ q_ st hk => let ⟨⟨o, ho, r⟩, ⟨o', ho', r'⟩⟩ := st; ⟨⟨o, hk it (by simp) o ho, r⟩, ⟨o', hk t (by simp) o' ho', r'⟩⟩
 item := fun i s Q E hi st hQ => by
  refine next_tup st.1 st.2 (x := items[i]) (by simp [hi]) fun h' hit' hs' => ?_
  exact hQ _ h' s.toks (by simp [hi]) ⟨hit', st.2.extBut hs'.extBut hne⟩ hs'
 done := fun s Q E st hE => end_tup hh st.1 st.2 (by simp) hE
set_option tactic.hygienic true in
theorem meets_enum_tup (t : Addr) (items : Array Value) (n : Nat) (dct : Option Addr) (sl : Array (Option Value)) :
  Meets (Builtin.«enumerate.__new__» ⟨[.type "enumerate", .ref t], []⟩) (fun q_ R s => s.heap.get? t = some { cls := .type "tuple", dict := dct, data := .seq items n, slots := sl } ∧
   R (.ok (.ret (.ref (s.heap.push { cls := .type "tuple_iterator", data := .fields #[.ref t, .int 0 0] }).objs.size)))
    { s with heap := (s.heap.push { cls := .type "tuple_iterator", data := .fields #[.ref t, .int 0 0] }).push { cls := .type "enumerate", data := .fields #[.none, .bool false, .ref s.heap.objs.size, rawInt 0, .none, .none] } }) :=
 .of_wp fun prog w A R s h => by
  obtain ⟨hp, g, d, tk, os⟩ := s; obtain ⟨hl, h⟩ := h
  have hsub := sub_enumerate
  have hL : Heap.IsTuple (Shared.heap ⟨hp, g, d, tk, os⟩) t items := ⟨_, hl, rfl, n, rfl⟩
  wp_walk using wpAny_loadPart' hl
  refine wpAny_stack_any fun st => wpAny_pure ?_
  split
  ·rename_i c _ _ _ _ _
   cases (c == Value.type "enumerate")
   ·wp_walk using wpAny_loadPart' hl, wpAny_pyIter_tuple hL
    exact ⟨_, rfl, h⟩
   ·wp_walk using wpAny_loadPart' hl, wpAny_pyIter_tuple hL
    exact ⟨_, rfl, h⟩
  ·wp_walk using wpAny_loadPart' hl, wpAny_pyIter_tuple hL
   exact ⟨_, rfl, h⟩
theorem call_enum_tup {t : Addr} {vs : List Value} {m : Nat} {Q : Value → Shared → Prop} (hL : s.heap.get? t = some (tupObj vs m))
  (h : ∀ h', IsEnum h' (s.heap.objs.size + 1) s.heap.objs.size 0 .none → h'.IsTupleIter s.heap.objs.size t 0 → h'.objs.size = s.heap.objs.size + 2 →
   (∀ b o, s.heap.get? b = some o → h'.get? b = some o) → Q (.ref (s.heap.objs.size + 1)) { s with heap := h' }) : wpAny (model prog w) A (call (.type "enumerate") [.ref t]) Q E s := by
 refine callType_new PySem.F.called_enumerate (by decide) (PySem.F.typeCall_enumerate_1 _) (PySem.F.newCall_enumerate_1 _) (fun obj => PySem.F.args_object_init_2 obj _) PySem.F.entry_enumerate_new
  (meets_enum_tup t vs.toArray m none #[]) ⟨hL, ?_⟩
 have hz : (s.heap.push { cls := .type "tuple_iterator", data := .fields #[.ref t, .int 0 0] }).objs.size = s.heap.objs.size + 1 := Heap.size_push ..
 show _ ∧ _
 rw [hz]
 have he : IsEnum ((s.heap.push { cls := .type "tuple_iterator", data := .fields #[.ref t, .int 0 0] }).push
   { cls := .type "enumerate", data := .fields #[.none, .bool false, .ref s.heap.objs.size, rawInt 0, .none, .none] }) (s.heap.objs.size + 1) s.heap.objs.size 0 .none := by
  have := Heap.get?_push_size (s.heap.push { cls := .type "tuple_iterator", data := .fields #[.ref t, .int 0 0] })
   (o := { cls := .type "enumerate", data := .fields #[.none, .bool false, .ref s.heap.objs.size, rawInt 0, .none, .none] }) rfl
  rw [hz] at this; exact this
 exact ⟨⟨_, he, rfl⟩, h _ he ⟨_, Heap.get?_push_of_some _ (Heap.get?_push_size _ rfl), rfl, rfl⟩ (by rw [Heap.size_push, hz]) fun b o x => Heap.get?_push_of_some _ (Heap.get?_push_of_some _ x)⟩
end
section
variable {C : Ct} {n : Nat} {H : List HObj}
theorem FnI.enumT {l : List V} : FnI C n (.val (.type "enumerate")) [.tup l] H H (fun q_ => True) isTupT (enumV l) := by
 intro A w Q E g xs R B rg rx K
 obtain ⟨_, rfl⟩ := rg.inv
 obtain ⟨x, rfl, r1⟩ := rx.inv1
 cases r1 with | @tup _ q vs m ho hn rv =>
 have hqI : q < w.s.heap.objs.size := Heap.lt_size ho
 refine call_enum_tup ho fun h' he hit hsz hk => wpAny_pyIter_enum he ?_
 have X1 : Ext w ⟨w.ρ, w.π, { w.s with heap := h' }⟩ := ⟨rfl, hk, rfl, rfl, rfl, Nat.le_refl _⟩
 have nw : ∀ a, w.s.heap.objs.size ≤ a → w.h.get? a = none := fun a ha => by
  cases z : w.h.get? a with
  | none => rfl
  | some o => exact absurd (Heap.lt_size z) (Nat.not_lt.mpr ha)
 generalize hI : w.s.heap.objs.size = I at he hit hqI
 have hIe : I ≠ I + 1 := Nat.ne_of_lt (Nat.lt_succ_self _)
 have hlen := rv.length
 refine K ⟨w.ρ, w.π, { w.s with heap := h' }⟩ (.ref (I + 1)) [I + 1, I] (fun i w' => (w'.h.get? q = some (tupObj vs m) ∧ q ∉ w'.ρ ∧ VRels w' l vs) ∧ w'.h.IsTupleIter I q i ∧ ∃ old, IsEnum w'.h (I + 1) I i old)
  (fun i y w' => (w'.h.get? q = some (tupObj vs m) ∧ q ∉ w'.ρ ∧ VRels w' l vs) ∧ w'.h.IsTupleIter I q i ∧ ∃ a x, y = .ref a ∧ IsEnumOut w'.h (I + 1) I i x a) X1.step (B.ext X1) (fun a ha => ?_) (NextOk.b ?_) ⟨⟨X1.keep _ _ ho, hn, rv.ext X1⟩, hit, _, he⟩
 ·rcases List.mem_cons.mp ha with rfl | ha
  ·exact nw _ (by lia)
  ·rw [List.mem_singleton.mp ha]; exact nw _ (by lia)
 ·clear X1 hk hsz nw he hit hI rv rx ho hn
  have mono : ∀ {w1 w2 : Wd} {Y}, NonSeq w1 Y → Step Y w1 w2 → (w1.h.get? q = some (tupObj vs m) ∧ q ∉ w1.ρ ∧ VRels w1 l vs) → (w2.h.get? q = some (tupObj vs m) ∧ q ∉ w2.ρ ∧ VRels w2 l vs) :=
   fun hY S h => ⟨S.keep _ _ h.1 h.2.1 (hY.not h.1 ⟨_, _, rfl⟩), S.notin h.1 h.2.1, h.2.2.step hY S⟩
  refine ⟨fun A w1 Q E R p K => let ⟨_, h⟩ := p.2.2; wpAny_pyIter_enum h K, ?_, ?_, ?_, ?_, ?_, ?_⟩
  ·rintro i w' ⟨_, ⟨o, ho, hc, hd⟩, old, he⟩ b hb
   rcases List.mem_cons.mp hb with rfl | hb
   ·exact ⟨_, _, _, he, rfl, rfl, by decide⟩
   ·rw [List.mem_singleton.mp hb]; exact ⟨o, _, _, ho, hd, hc, by decide⟩
  ·rintro i y w' ⟨_, ⟨o, ho, hc, hd⟩, a, x, _, he⟩ b hb
   rcases List.mem_cons.mp hb with rfl | hb
   ·exact ⟨_, _, _, he, rfl, rfl, by decide⟩
   ·rw [List.mem_singleton.mp hb]; exact ⟨o, _, _, ho, hd, hc, by decide⟩
  ·rintro i w1 w2 Y ⟨r1, ⟨o, ho, hc, hd⟩, old, he⟩ S hY hXY hρ
   exact ⟨mono hY S r1, ⟨o, S.keep _ o ho (hρ I (.tail _ (.head _))) (hXY I (.tail _ (.head _))), hc, hd⟩, old, S.keep _ _ he (hρ _ (.head _)) (hXY _ (.head _))⟩
  ·rintro i v A w1 H1 Q E hi R B1 ok ⟨r1, hit, old, he⟩ hX K
   obtain ⟨u', hu, rfl⟩ := enumV_at hi
   obtain ⟨z, h1, h2⟩ := r1.2.2.get hu
   have hlt : i < vs.toArray.size := by have := (List.getElem?_eq_some_iff.mp h1).1; simpa using this
   refine wpAny_with_toks (Nat.le_refl _) (wpAny_pyNext_enum_itemD (draws_tup (A := A.in1) R.hd I q (Nat.ne_of_lt hqI) vs.toArray) he ⟨hit, _, r1.1, rfl, _, rfl⟩ hlt (Ne.symm hIe) (fun z => ?_) fun x h' tk hx he' hit' ht' hsz' hk' htk => ?_)
   ·rcases List.mem_cons.mp z with z | z
    ·exact absurd z (Ne.symm hIe)
    ·rw [← List.mem_singleton.mp z] at hqI; exact absurd hqI (Nat.not_lt.mpr (Nat.le_succ _))
   ·have hxz : x = z := by
     have : vs[i]? = some x := by simpa using hx
     rw [h1] at this; exact (Option.some.inj this).symm
    subst hxz
    obtain ⟨S, ks⟩ := step_two (w := w1) (a := I + 1) (b := I) (h' := h') (t := tk + 1) htk (fun b o p q e => hk' b o p q e)
    refine K ⟨w1.ρ, w1.π, _⟩ _ S rfl ks ⟨mono hX S r1, hit'.1, _, _, rfl, he'⟩ ?_
    exact .tup (vs := [.int i tk, x]) (n := 0) ht' (B1.fresh (size_none _)) (.cons (.int _ _) (.cons (h2.step hX S) .nil))
  ·rintro A w1 H1 Q E R B1 ok ⟨r1, hit, old, he⟩ hX K
   rw [enumV_len] at hit he
   refine wpAny_pyNext_enum_endD (draws_tup (A := A.in1) R.hd I q (Nat.ne_of_lt hqI) vs.toArray) he ⟨?_, _, r1.1, rfl, _, rfl⟩ fun h' hs => ?_
   ·simpa [hlen] using hit
   ·obtain ⟨S, ks⟩ := step_two (w := w1) (a := I + 1) (b := I) (h' := h') (t := w1.s.toks) (Nat.le_refl _) (fun b o p q e => hs b o q e)
    exact K ⟨w1.ρ, w1.π, _⟩ S rfl ks
  ·rintro i A w1 H1 target v y Q E hT _ ⟨r1, hit, a, x, rfl, he⟩ hX B1 rv K
   obtain ⟨_, _, _, rfl⟩ := isTup_inv hT
   refine wpAny_letOwnedTupleGo_enum he fun h' he' hs => ?_
   obtain ⟨S, ks⟩ := step_two (w := w1) (a := I + 1) (b := I) (h' := h') (t := w1.s.toks) (Nat.le_refl _) (fun b o p q e => (hs.2 b p).trans e)
   exact K ⟨w1.ρ, w1.π, _⟩ S rfl ks ⟨mono hX S r1, hit.extBut hs.extBut hIe, x, he'⟩
end
end
section
noncomputable def Post (C : Ct) (m : Nat) (Hm : List HObj) (env : Env) (w : Wd) (y : Value) (s' : Shared) : Prop :=
 y = .bool true ∧ ∃ w' : Wd, s' = w'.s ∧ w'.ρ = w.ρ.take m ∧ w'.π = w.π ∧ (∀ a o, w.h.get? a = some o → a ∉ w.ρ → a ∉ fw env → w'.h.get? a = some o) ∧ (∀ a o, w.h.get? a = some o → a ∉ fw env → ∃ o', w'.h.get? a = some o') ∧
  w'.s.gens = w.s.gens ∧ w'.s.os = w.s.os ∧ w.s.toks ≤ w'.s.toks ∧ BSt C w' Hm
theorem Post.back {C : Ct} {m : Nat} {Hm : List HObj} {env : Env} {w1 w2 : Wd} {y : Value} {s' : Shared} (S : Step (fw env) w1 w2) (hm : m ≤ w1.ρ.length) (h : Post C m Hm env w2 y s') : Post C m Hm env w1 y s' := by
 obtain ⟨e, w', h1, h2, h3, h4, h5, h6, h7, h8, h9⟩ := h
 refine ⟨e, w', h1, ?_, h3.trans S.pin, fun a o e n f => h4 a o (S.keep a o e n f) (S.notin e n) f, fun a o e f => ?_, h6.trans S.gens, h7.trans S.os, Nat.le_trans S.tk h8, h9⟩
 ·obtain ⟨δ, hδ, _⟩ := S.rho
  rw [h2, hδ, List.take_append_of_le_length hm]
 ·obtain ⟨o', e'⟩ := S.live a o e f
  exact h5 a o' e' f
noncomputable def ExK (C : Ct) (n : Nat) (A : Around) (m : Nat) (Hm : List HObj) (env : Env) (σ : Loc) (H : List HObj) (ss : List PySem.Stmt) : Prop :=
 ∀ (w : Wd) (Q : Flow → Shared → Prop) (E : Value → Shared → Prop), Room A n → BSt C w H → FSt C w env σ → (∀ y s', Post C m Hm env w y s' → Q (.ret y) s') → wpAny C.M A (execs ss env) Q E w.s
noncomputable def EvK' (C : Ct) (n : Nat) (A : Around) (m : Nat) (Hm : List HObj) (env : Env) (σ : Loc) (H : List HObj) (e : PySem.Expr) : Prop :=
 ∀ (w : Wd) (Q E : Value → Shared → Prop), Room A n → BSt C w H → FSt C w env σ → (∀ y s', Post C m Hm env w y s' → Q y s') → wpAny C.M A (eval e env) Q E w.s
noncomputable def BoK (C : Ct) (n : Nat) (A : Around) (m : Nat) (Hm : List HObj) (env : Env) (σ : Loc) (H : List HObj) (es : List PySem.Expr) : Prop :=
 ∀ (w : Wd) (Q E : Value → Shared → Prop) (pos : Pos), Room A n → BSt C w H → FSt C w env σ → (∀ y s', Post C m Hm env w y s' → Q y s') → wpAny C.M A (boolOp pos .And (evalEach es env)) Q E w.s
section
variable {C : Ct} {n m : Nat} {A : Around} {Hm : List HObj} {env : Env} {σ σ' σ1 : Loc} {H H' H0 H1 H2 H3 : List HObj} {pos p pos' : Pos} {k : Nat} {x : Str} {v v1 v2 v3 : V} {e e1 e2 e3 : PySem.Expr} {o : Out} {st : PySem.Stmt} {rest body orelse : List PySem.Stmt} {es : List PySem.Expr}
theorem ExK.cons (h1 : Es C n env σ H st (.next σ1 H1)) (h2 : ExK C n A m Hm env σ1 H1 rest) (hm : m ≤ H.length) : ExK C n A m Hm env σ H (st :: rest) := by
 intro w Q E R B F K
 refine wpAny_execs_cons (h1 A w _ E R B F fun w1 f S1 O1 => ?_)
 obtain ⟨rfl, B1, F1⟩ := O1.inv
 exact h2 w1 Q E R B1 F1 fun y s' P => K y s' (P.back S1 (by rw [B.len]; exact hm))
theorem BoK.one (h : EvK' C n A m Hm env σ H e) : BoK C n A m Hm env σ H [e] := fun w Q E q_ R B F K => h w Q E R B F K
theorem BoK.next (h : Ev C n env σ H e H1 v) (ht : Tru C n v H1 true) (h2 : BoK C n A m Hm env σ H1 (e2 :: es)) (hm : m ≤ H.length) (he : ∀ env : Env, evalEach (e :: e2 :: es) env = eval e env :: evalEach (e2 :: es) env) : BoK C n A m Hm env σ H (e :: e2 :: es) := by
 intro w Q E pos R B F K
 rw [he]
 show wpAny C.M A (eval _ env >>= fun v => _) Q E w.s
 refine wpAny_bind (h A w _ _ R B F fun w1 y S1 B1 F1 r1 => ?_)
 refine wpAny_bind (wpAny_standAt (wpAny_bind (wpAny_holding (ht A w1 _ _ y R B1 r1 fun w2 S2 B2 => ?_))))
 exact h2 w2 Q E pos R B2 (F1.step0 S2) fun y s' P => K y s' (P.back (F.wide (S1.trans S2)) (by rw [B.len]; exact hm))
theorem ExK.ret (h : BoK C n A m Hm env σ H es) : ExK C n A m Hm env σ H [.Return (some (.BoolOp .And es pos)) pos'] := by
 intro w Q E R B F K
 refine wpAny_execs_cons (wpAny_Return_some ?_)
 rw [arm_eval_BoolOp]
 exact h w _ _ _ R B F K
noncomputable def FnL (C : Ct) (n : Nat) (f : V) (args : List V) (H : List HObj) : Prop :=
 ∀ (A : Around) (w : Wd) (R : Result → Shared → Prop) (g : Value) (xs : List Value), Room A n → A.frames = some [] → BSt C w H → VRel w f g → VRels w args xs →
  (∀ w', Step [] w w' → BSt C w' H → R (.ok (.ret (.bool true))) w'.s) → codeAny C.M A (.call g ⟨xs, []⟩) R w.s
theorem FnL.ofDef {f : Addr} {fd : FuncData} {oc : Value} {od : Option Addr} {osl : Array (Option Value)} {body : List Stmt} {args : List V} {ns : List Str} {vs : List V}
  (ho : C.K.lookup f = some ⟨oc, od, .func fd, osl⟩) (hb : fd.body = .stmts body) (hst : fdOk fd = true) (hcd : codeIn C.K fd.code fd.qualname = true) (hns : namesOk fd ns = true) (hnd : ns.Nodup)
  (hbind : BindsX C fd args [] ns vs H H) (hbody : ∀ (A : Around) (env : Env), env.scope = fd.scope → A.frames = some [env] → env.frame = some env.locals → env.locals ≠ sysModules → ExK C n A H.length H env (ns.zip vs) H body) : FnL C (n + 1) (.val (.ref f)) args H := by
 intro A w0 R' g xs R hfr B0 rg rx K
 refine FnC.enter (kw := []) (ks := []) ho hb hst hcd hns hnd hbind R B0 rg rx .nil fun w w1 L S0 X1 eL notX B1 F1 => ?_
 have h3 : L ≠ sysModules := by
  obtain ⟨o, _, _, e, _⟩ := C.g
  have h0 := B0.stays _ o e
  have h1 := S0.keep _ o h0 (fun m => by rw [(B0.out _ m).1] at e; cases e) (fun z => nomatch z)
  have := Heap.lt_size h1
  rw [← eL] at this
  intro q; rw [q] at this; exact absurd this (by decide)
 have q := hbody (A.deeper (callEnvC fd L f)) (callEnvC fd L f) rfl (frames_deeper hfr _) rfl h3 w1 (fun fl s₂ => R' (.ok (.ret (match fl with | .ret v => v | _ => .none))) s₂)
  (fun e s₂ => wpAny C.M (A.deeper (callEnvC fd L f)) (leaving (callEnvC fd L f) e) (fun q_ s'' => R' (.error e) s'') (fun e' s'' => R' (.error e') s'') s₂)
  R.deeper B1 F1 fun y s' P => ?_
 ·exact wpAny_mono q (fun fl s₂ z => by cases fl <;> exact z) fun q_ q_ z => z
 ·obtain ⟨rfl, w', rfl, h2, h4, h5, h6, h7, h8, h9, h10⟩ := P
  have er : w'.ρ = w.ρ := by rw [h2, X1.rho, List.take_of_length_le]; rw [← X1.rho, B1.len]; exact Nat.le_refl _
  have S : Step [] w w' := ⟨⟨[], by rw [er, List.append_nil], fun q_ m => nomatch m⟩, fun a o e n q_ => h5 a o (X1.keep a o e) (by rw [X1.rho]; exact n) (notX a o e), fun a o e q_ => h6 a o (X1.keep a o e) (notX a o e), h7.trans X1.gens, h8.trans X1.os, h4.trans X1.pin, Nat.le_trans X1.tk h9⟩
  exact K w' (S0.trans S) h10
end
end
section
noncomputable abbrev Ct.raw (C : Ct) : Ct := { C with tp := False }
theorem BSt.raw {C : Ct} {w : Wd} {H : List HObj} (B : BSt C w H) : BSt C.raw w H := ⟨B.stays, B.out, B.nodup, B.len, B.obj, B.pins, fun h => h.elim, B.tops⟩
theorem BSt.cook {C : Ct} {w : Wd} {H : List HObj} (B : BSt C.raw w H) (h : 0 < w.s.toks) : BSt C w H := ⟨B.stays, B.out, B.nodup, B.len, B.obj, B.pins, fun q_ => h, B.tops⟩
theorem FSt.cook {C : Ct} {w : Wd} {env : Env} {σ : Loc} (F : FSt C.raw w env σ) : FSt C w env σ := ⟨F.own, F.glob, F.bltn, F.kind, F.ns, F.out, F.cells, F.nodup, F.full, F.pin⟩
noncomputable def Es0 (C : Ct) (n : Nat) (env : Env) (σ : Loc) (H : List HObj) (st : PySem.Stmt) (σ1 : Loc) (H1 : List HObj) : Prop :=
 ∀ (A : Around) (w : Wd) (Q : Flow → Shared → Prop) (E : Value → Shared → Prop), Room A n → BSt C.raw w H → FSt C.raw w env σ → (∀ w', Step (fw env) w w' → BSt C w' H1 → FSt C w' env σ1 → Q .next w'.s) → wpAny C.M A (exec st env) Q E w.s
noncomputable def Ev0 (C : Ct) (n : Nat) (env : Env) (σ : Loc) (H : List HObj) (e : PySem.Expr) (H' : List HObj) (v : V) : Prop :=
 ∀ (A : Around) (w : Wd) (Q E : Value → Shared → Prop), Room A n → BSt C.raw w H → FSt C.raw w env σ → (∀ w' y, Step [] w w' → BSt C w' H' → FSt C w' env σ → VRel w' v y → Q y w'.s) → wpAny C.M A (eval e env) (fun v s => Q v s) E w.s
noncomputable def SrcE0 (C : Ct) (n : Nat) (env : Env) (σ : Loc) (H : List HObj) (iter : PySem.Expr) (H1 : List HObj) (Ok : List HObj → Prop) (T : PySem.Expr → Bool) (l : List V) : Prop :=
 ∀ (A : Around) (w : Wd), Room A n → BSt C.raw w H → FSt C.raw w env σ → SrcAt C n A env σ w iter H1 Ok T l
section
variable {C : Ct} {n m : Nat} {A : Around} {Hm : List HObj} {env : Env} {σ σ' σ1 : Loc} {H H' H0 H1 H2 H3 : List HObj} {pos p pos' cpos tpos : Pos} {k tk : Nat} {x : Str} {v v1 v2 v3 : V} {e e1 e2 e3 : PySem.Expr} {st : PySem.Stmt} {rest : List PySem.Stmt} {es : List PySem.Expr} {vs : List V} {i : Int}
theorem SrcE0.enum (hs : nsIn C.K mainGlobals (Str.ofString "enumerate") = some Option.none) (hsb : bootBuiltins (Str.ofString "enumerate") = some (.type "enumerate")) (hx : env.kindOf (Str.ofString "enumerate") = some .globalImplicit)
  (h2 : EvL C n env σ H tpos es H vs) (hl : vs.length + 1 ≤ sizeLine) : SrcE0 C n env σ H (.Call (.Name (Str.ofString "enumerate") p) [.Tuple (.Constant (.int i) k cpos :: es) tk tpos] [] pos) H (fun q_ => True) isTupT (enumV (.int i :: vs)) := by
 intro A w R B F Q E K
 refine wpAny_Call_Name_kw (name_blt (C := C.raw) B F hs hsb (by decide) hx (by decide) ?_)
 refine callWith_of (P := fun q_ => True) rfl (fun q_ q_ => ⟨.machine, .inr (.inl rfl), Looks.of_pure rfl⟩) ?_
 refine Calls.evalArgs_plain (spliced_cons (wpAny_Tuple (k := tk) ?_))
 refine args_cons (wpAny_Constant_int ?_) rfl
 have B1 : BSt C ⟨w.ρ, w.π, { w.s with toks := w.s.toks + 1 }⟩ H := (B.ext Ext.toks).cook (Nat.succ_pos _)
 have F1 : FSt C ⟨w.ρ, w.π, { w.s with toks := w.s.toks + 1 }⟩ env σ := (F.ext Ext.toks).cook
 refine h2 A ⟨w.ρ, w.π, { w.s with toks := w.s.toks + 1 }⟩ _ E R B1 F1 fun w2 ys S2 B2 F2 r2 => ⟨by rw [List.length_cons, r2.length]; exact hl, ?_⟩
 have X : Ext w2 ⟨w2.ρ, w2.π, { w2.s with heap := w2.s.heap.push { cls := .type "tuple", data := .seq (Value.int i w.s.toks :: ys).toArray } }⟩ := Ext.push _
 have rt : VRel ⟨w2.ρ, w2.π, { w2.s with heap := w2.s.heap.push { cls := .type "tuple", data := .seq (Value.int i w.s.toks :: ys).toArray } }⟩ (.tup (.int i :: vs)) (.ref w2.s.heap.objs.size) :=
  .tup (n := 0) (Heap.get?_push_size _ rfl) (B2.fresh (size_none _)) (.cons (.int _ _) (r2.ext X))
 refine spliced_nil ⟨trivial, ?_⟩
 have S1 : Step [] w ⟨w2.ρ, w2.π, { w2.s with heap := w2.s.heap.push { cls := .type "tuple", data := .seq (Value.int i w.s.toks :: ys).toArray } }⟩ := (Ext.toks.step.trans S2).trans X.step
 exact FnI.enumT A ⟨w2.ρ, w2.π, { w2.s with heap := w2.s.heap.push { cls := .type "tuple", data := .seq (Value.int i w.s.toks :: ys).toArray } }⟩ Q E (.type "enumerate") [.ref w2.s.heap.objs.size] R (B2.ext X) (.val _) (.cons rt .nil) fun w4 it Y P P' S4 B4 hY N p4 =>
  K _ w4 it Y P P' H S1 (B2.ext X) (F2.ext X) S4 B4 hY N p4
theorem SrcE0.eql {iter : PySem.Expr} {Ok : List HObj → Prop} {T : PySem.Expr → Bool} {l l' : List V} (h : SrcE0 C n env σ H iter H1 Ok T l) (q : l = l') : SrcE0 C n env σ H iter H1 Ok T l' := q ▸ h
theorem Ev0.comp {S scope : Scope} {elt target iter : PySem.Expr} {ifs : List PySem.Expr} {Ok : List HObj → Prop} {T : PySem.Expr → Bool} {l rs : List V} (hS : env.scope = S) (he : SrcE0 C n env σ H iter H1 Ok T l) (hT : T target = true) (hOk : ∀ K, Ok (H1 ++ K)) (ok : compOk scope S = true)
  (hco : ∀ cenv : Env, cenv.scope = relS scope S → Co C n cenv target ifs elt (inner scope σ) H1 l rs) (hlen : l.length ≤ sizeLine) (hfold : ∀ (env : Env) x, foldedSetIterable iter env x = pure x) (hH : H.length ≤ H1.length) :
  Ev0 C n env σ H (.ListComp elt [⟨target, iter, ifs, 0⟩] scope pos) H1 (.lst rs) := by
 subst hS
 intro A w Q E R B F K
 exact Ev.compAt hT hOk ok hco hlen hfold (by rw [B.len]; exact hH) R F.cook (he A w R B F) K
theorem Ev0.eqv (h : Ev0 C n env σ H e H1 v) (q : v = v1) : Ev0 C n env σ H e H1 v1 := q ▸ h
theorem Es0.assign (h : Ev0 C n env σ H e H1 v) (hk : Sto env x) (hs : swapsWith e (some (.Name x pos')) pos.line env = pure false) : Es0 C n env σ H (.Assign [.Name x pos'] e pos) ((x, v) :: σ) H1 := by
 intro A w Q E R B F K
 refine wpAny_Assign_Name (h A w _ E R B F fun w1 y1 S1 B1 F1 r1 => ?_) hs
 exact store B1 F1 r1 hk fun w2 S2 B2 F2 => K w2 (F.cook.swide S1 S2) B2 F2
theorem ExK.first (h1 : Es0 C n env σ H st σ1 H1) (h2 : ExK C n A m Hm env σ1 H1 rest) (hm : m ≤ H.length) : ExK C.raw n A m Hm env σ H (st :: rest) := by
 intro w Q E R B F K
 refine wpAny_execs_cons (h1 A w _ E R B F fun w1 S1 B1 F1 => ?_)
 refine h2 w1 Q E R B1 F1 fun y s' P => K y s' ?_
 obtain ⟨e, w', g1, g2, g3, g4, g5, g6, g7, g8, g9⟩ := P.back S1 (by rw [B.len]; exact hm)
 exact ⟨e, w', g1, g2, g3, g4, g5, g6, g7, g8, g9.raw⟩
end
end
section
theorem fnL {c : C1} {n : Nat} {H : List HObj} {f : Addr} {fd : FuncData} {oc : Value} {od : Option Addr} {osl : Array (Option Value)} {body : List PySem.Stmt} {args : List V} {ns : List Str} {vs : List V}
  (ho : (hd02.heap_39 c.w.params).lookup f = some ⟨oc, od, .func fd, osl⟩) (hb : fd.body = .stmts body) (hst : fdOk fd = true) (hcd : codeIn (hd02.heap_39 c.w.params) fd.code fd.qualname = true) (hns : namesOk fd ns = true) (hnd : ns.Nodup)
  (hbind : Binds c.ct.raw fd args [] ns vs) (hbody : ∀ (A : Around) (env : Env), env.scope = fd.scope → A.frames = some [env] → env.frame = some env.locals → env.locals ≠ sysModules → ExK c.ct.raw n A H.length H env (ns.zip vs) H body) :
  FnL c.ct.raw (n + 1) (.val (.ref f)) args H := FnL.ofDef (C := c.ct.raw) ho hb hst hcd hns hnd (Binds.wide hbind) hbody
noncomputable abbrev law0 : List HObj := [.sem (tabA 0 265 (Str.ofString "_law_weights.<locals>.<lambda>")), .sem (tabA 1 270 (Str.ofString "_law_grown.<locals>.<lambda>"))]
noncomputable def bases : List Int := [180080, 352251, 66720, 404017, 23360, 235293, 2940, 123456]
theorem enum_bases : enumV [.int 180080, .int 352251, .int 66720, .int 404017, .int 23360, .int 235293, .int 2940, .int 123456] = bases.zipIdx.map fun (q : Int × Nat) => V.tup [.int (q.2 : Int), .int q.1] := rfl
noncomputable def sel (ns : List Int) (k : Nat) : List Int := pick (pick ns none (some 60) none) (some (k : Int)) none (some 8)
theorem sel_map (ns : List Int) (k : Nat) : pick (pick (ns.map V.int) none (some 60) none) (some (k : Int)) none (some 8) = (sel ns k).map V.int := by unfold sel; rw [pick_map, pick_map]
theorem pick_step_len {α : Type} (l : List α) (k : Nat) : (pick l (some (k : Int)) none (some 8)).length ≤ l.length := by
 unfold pick
 refine Nat.le_trans (List.length_filterMap_le _ _) ?_
 exact sliceIndicesBy_le (some (k : Int)) none 8 (by decide) l.length
theorem take60_len {α : Type} (l : List α) : (pick l none (some 60) none).length ≤ 60 := by
 have : pick l none (some 60) none = l.take 60 := pick_upto l 60
 rw [this, List.length_take]; lia
theorem sel_le (ns : List Int) (k : Nat) : (sel ns k).length ≤ 60 := Nat.le_trans (pick_step_len _ k) (take60_len ns)
theorem sel_len0 {ns : List Int} (h : ns.length ≤ 100) : (pick (ns.map V.int) none (some 60) none).length ≤ 16777216 := Nat.le_trans (take60_len _) (by decide)
theorem sel_len1 {ns : List Int} {k : Nat} (h : ns.length ≤ 100) : ((sel ns k).map V.int).length ≤ 16777216 := by rw [List.length_map]; exact Nat.le_trans (sel_le ns k) (by decide)
theorem fm6 (x : Int) : 0 ≤ x.fmod 1000000 ∧ x.fmod 1000000 < 1000000 := by
 rw [Int.fmod_eq_emod_of_nonneg _ (by decide)]; lia
theorem sum_leI {l : List Int} (h : ∀ x ∈ l, 0 ≤ x ∧ x < 1000000) : 0 ≤ l.sum ∧ l.sum ≤ 1000000 * l.length := by
 induction l with
 | nil => simp
 | cons x l ih =>
  have h1 := h x (.head _)
  have h2 := ih fun y m => h y (.tail _ m)
  simp only [List.sum_cons, List.length_cons]
  lia
theorem sel_each (ns : List Int) (k : Nat) : ∀ x ∈ (sel ns k).map (fun x => x.fmod 1000000), -(2 ^ 62) < x ∧ x < 2 ^ 62 := fun x hx => by
 obtain ⟨y, _, rfl⟩ := List.mem_map.mp hx
 have := fm6 y
 omega
theorem sel_mem {ns : List Int} {k : Nat} : ∀ x ∈ (sel ns k).map (fun x => x.fmod 1000000), 0 ≤ x ∧ x < 1000000 := fun x hx => by
 obtain ⟨y, _, rfl⟩ := List.mem_map.mp hx
 exact fm6 y
theorem sel_sums {ns : List Int} {k : Nat} (h : ns.length ≤ 100) : ∀ j, -(2 ^ 62) < (((sel ns k).map fun x => x.fmod 1000000).take j).sum ∧ (((sel ns k).map fun x => x.fmod 1000000).take j).sum < 2 ^ 62 := fun j => by
 have h1 := sum_leI (l := ((sel ns k).map fun x => x.fmod 1000000).take j) fun x hx => sel_mem x (List.mem_of_mem_take hx)
 have h2 : (((sel ns k).map fun x => x.fmod 1000000).take j).length ≤ 60 := by
  rw [List.length_take, List.length_map]
  have := sel_le ns k
  lia
 omega
noncomputable def cellOf (ns : List Int) (k : Nat) : Int := bases.getD k 0 + ((sel ns k).map fun x => x.fmod 1000000).sum
theorem cell_nonneg (ns : List Int) : ∀ k, 0 ≤ cellOf ns k := fun k => by
 have h1 := sum_leI (l := (sel ns k).map fun x => x.fmod 1000000) sel_mem
 have h3 : 0 ≤ bases.getD k 0 := by
  by_cases q : k < 8
  ·exact (by decide : ∀ k, k < 8 → 0 ≤ bases.getD k 0) k q
  ·rw [List.getD_eq_getElem?_getD, List.getElem?_eq_none (by show 8 ≤ k; exact Nat.le_of_not_lt (by assumption))]; exact Int.le_refl _
 unfold cellOf
 omega
noncomputable def clOf (ns : List Int) : List Nat := (List.range 8).map fun k => (cellOf ns k).toNat
theorem cl_len (ns : List Int) : (clOf ns).length = 8 := by unfold clOf; rw [List.length_map, List.length_range]
theorem cells_eq (ns : List Int) : V.lst (bases.zipIdx.map fun q => V.int (q.1 + ((sel ns q.2).map fun x => x.fmod 1000000).sum)) = .lst ((clOf ns).map nI) := by
 have e : (clOf ns).map nI = (List.range 8).map fun k => V.int (cellOf ns k) := by
  unfold clOf
  rw [List.map_map]
  refine List.map_congr_left fun k _ => ?_
  show V.int (((cellOf ns k).toNat : Nat) : Int) = _
  rw [Int.toNat_of_nonneg (cell_nonneg ns k)]
 rw [e]; rfl
theorem told_tok : toldL = (List.range 48).map tok := by decide +kernel
theorem told_words : Txt.words (Str.ofString "( ) [ ] : , ; + - * / | & < > = . % { } == != <= >= ~ ^ << >> ** += -= *= /= %= &= |= ^= <<= >>= **= // //= @ @= -> ... := !") = (List.range 48).map tok := by decide +kernel
theorem told_spaces : (Builtin.Str.spaceWords (Str.ofString "( ) [ ] : , ; + - * / | & < > = . % { } == != <= >= ~ ^ << >> ** += -= *= /= %= &= |= ^= <<= >>= **= // //= @ @= -> ... := !") ((Str.ofString "( ) [ ] : , ; + - * / | & < > = . % { } == != <= >= ~ ^ << >> ** += -= *= /= %= &= |= ^= <<= >>= **= // //= @ @= -> ... := !").length + 1)).length ≤ sizeLine := by decide +kernel
theorem told_val : V.lst ((Txt.words (Str.ofString "( ) [ ] : , ; + - * / | & < > = . % { } == != <= >= ~ ^ << >> ** += -= *= /= %= &= |= ^= <<= >>= **= // //= @ @= -> ... := !")).map V.str) = .lst (tokV (List.range 48)) := by rw [told_words, List.map_map]; rfl
section
variable {C : Ct} {n m : Nat} {A : Around} {Hm : List HObj} {env : Env} {σ : Loc} {H H1 : List HObj} {e : PySem.Expr}
theorem EvK'.of (h : Ev C n env σ H e H1 (.bool true)) (hm : m ≤ H.length) (h1 : m ≤ H1.length) (ht : H1.take m = Hm) (hc : Cl Hm) : EvK' C n A m Hm env σ H e := by
 intro w Q E R B F K
 subst ht
 refine h A w Q E R B F fun w1 y S1 B1 F1 r1 => K y w1.s ?_
 obtain rfl := r1.inv
 obtain ⟨δ, hδ, _⟩ := S1.rho
 refine ⟨rfl, ⟨w1.ρ.take m, w1.π, w1.s⟩, rfl, ?_, S1.pin, fun a o e n f => S1.keep a o e n (fun z => nomatch z), fun a o e f => S1.live a o e (fun z => nomatch z), S1.gens, S1.os, S1.tk, (B1.lower m hc h1).1⟩
 show w1.ρ.take m = _
 rw [hδ, List.take_append_of_le_length (by rw [B.len]; exact hm)]
end
theorem cl_law0 : Cl law0 := fun i P h => by
 match i, h with
 | 0, h => cases h; show 1 ≤ 2; decide
 | 1, h => cases h; show 2 ≤ 2; decide
theorem take_law0 {H : List HObj} (h0 : H[0]? = law0[0]?) (h1 : H[1]? = law0[1]?) : H.take 2 = law0 := by
 match H, h0, h1 with
 | [], h0, _ => cases h0
 | [_], _, h1 => cases h1
 | a :: b :: r, h0, h1 =>
  have e0 := Option.some.inj h0
  have e1 := Option.some.inj h1
  show [a, b] = law0
  rw [e0, e1]
theorem st_weights (c : C1) {Hb : List HObj} {ia j jp : Nat} {P : List PT} {ks d : List Nat} {T : Tr} (D : DealW P ks d T) (hT : Hb[0]? = law0[0]?) (hj : Hb[j]? = some (.sem (ownA HX ia))) (hi : Hb[ia]? = some (.list (pairsT P))) (hp : Hb[jp]? = some (.list (pairsT P))) :
  ∃ (Hw : List HObj) (jw : Nat), Fn c.ct 7 (.val (.ref 268)) [.sem (instA 247 j), .ref jp, .lst (tokV ks)] [] Hb Hw (.ref jw) ∧ Hw[jw]? = some (.list ((ks.map (wgt P)).map nI)) ∧ (∀ (i : Nat) (o : HObj), Hb[i]? = some o → Hw[i]? = some o) ∧ Hb.length ≤ Hw.length :=
 ⟨_, _, fn_weights c Hb (t := 0) (up := .ref jp) hT hj (hiP Hb hi) (.ref hp) Lsy.lst D.k6 D.k48 D.srt D.P18 D.Pok, by rw [at_dict, List.map_map]; rfl, fun i o h => getElem?_append_some h, by rw [List.length_append]; exact Nat.le_add_right _ _⟩
theorem st_tree (c : C1) (Hw : List HObj) : ∃ (Ht : List HObj) (j ia : Nat), Fn c.ct 5 (.val (.ref 247)) [] [] Hw Ht (.sem (instA 247 j)) ∧ Ht[j]? = some (.sem (ownA HX ia)) ∧ Ht[ia]? = some (.list (pairsV [])) ∧ Hw.length ≤ ia ∧ Hw.length ≤ j ∧ (∀ (i : Nat) (o : HObj), Hw[i]? = some o → Ht[i]? = some o) ∧ Hw.length ≤ Ht.length :=
 ⟨_, _, _, fn_Headers c Hw, at_pile, at_dict, Nat.le_succ _, Nat.le_refl _, fun i o h => getElem?_append_some h, by rw [List.length_append]; exact Nat.le_add_right _ _⟩
theorem st_grown (c : C1) {Hz : List HObj} {ia j : Nat} {P : List PT} {ks d : List Nat} {T : Tr} (D : DealW P ks d T) (hT : Hz[1]? = law0[1]?) (hj : Hz[j]? = some (.sem (ownA HX ia))) (hi : Hz[ia]? = some (.list (pairsV []))) :
  ∃ Hg : List HObj, Fn c.ct 7 (.val (.ref 273)) [.lst (rowV (rwF P ks)), .sem (instA 247 j)] [] Hz Hg (nI T.top) ∧ Hg[j]? = some (.sem (ownA HX ia)) ∧ Hg[ia]? = some (.list (pairsV (prsN (rwF P ks) 5))) ∧ (∀ (i : Nat) (o : HObj), i ≠ ia → Hz[i]? = some o → Hg[i]? = some o) ∧ Hz.length ≤ Hg.length :=
 ⟨_, D.tr ▸ fn_grown c Hz (t := 1) hT hj hi D.row6 D.rtop, set_ne hj hi, set_at hi, fun i o n h => set_l h n.symm, by rw [List.length_set]; exact Nat.le_refl _⟩
theorem prs_lens {r : List (Nat × Tr)} : ∀ q ∈ prsN r 5, q.1.length ≤ 100000 := fun q m => by
 obtain ⟨j, hj, y, rfl⟩ := prs_names 5 q m
 exact Nat.le_trans (num_len (n := 256 + j) (by lia)) (by decide)
theorem st_depths (c : C1) {Hg : List HObj} {ia j : Nat} {P : List PT} {ks d : List Nat} {T : Tr} (D : DealW P ks d T) (hj : Hg[j]? = some (.sem (ownA HX ia))) (hi : Hg[ia]? = some (.list (pairsV (prsN (rwF P ks) 5)))) :
  ∃ (Hd : List HObj) (jd : Nat), Fn c.ct 5 (.val (.ref 278)) [nI T.top, .sem (instA 247 j)] [] Hg Hd (.ref jd) ∧ Hd[jd]? = some (.sem (dictA c.ct (T.deps 0 ++ [(0, 11)]))) ∧ (∀ (i : Nat) (o : HObj), Hg[i]? = some o → Hd[i]? = some o) ∧ Hg.length ≤ Hd.length :=
 ⟨_, _, fn_depths c Hg hj hi (by rw [prsN_len]; decide) prs_lens D.tin D.size D.nod D.nz (Nat.le_trans D.len (by decide)), at_dict, fun i o h => getElem?_append_some h, by rw [List.length_append]; exact Nat.le_add_right _ _⟩
theorem st_booked (c : C1) {sg cl : List Nat} (h6 : sg.length = 6) (h8 : cl.length = 8) (hsg : ∀ k ∈ sg, k < 48) : ∃ (Hb : List HObj) (jp : Nat) (P : List PT), Fn c.ct 7 (.val (.ref 263)) [.lst (tokV sg), .lst (cl.map nI)] [] law0 Hb (.tup [.sem (instA 247 2), .ref jp, .bool true]) ∧ Hb[2]? = some (.sem (ownA HX 3)) ∧ Hb[3]? = some (.list (pairsT P)) ∧ Hb[jp]? = some (.list (pairsT P)) ∧
  Hb[0]? = law0[0]? ∧ Hb[1]? = law0[1]? ∧ 6 ≤ Hb.length ∧ P.length ≤ 18 ∧ ∀ q ∈ P, q.1 ∈ sg ∧ q.2.2 ≤ 10 := by
 have I := sB_inv (H := law0) (cl := cl) h6 18
 have h := fn_booked c law0 h6 h8 hsg
 refine ⟨finB law0 sg cl 6, _, _, h, set_ne I.own I.tl, set_l I.hl (by decide), set_l I.pj I.ne2.symm, set_l (I.frame 0 (by decide)) (by decide), set_l (I.frame 1 (by decide)) (by decide), ?_, I.Plen, fun q m => ⟨(I.Pin q m).1, (I.Pin q m).2.2⟩⟩
 unfold finB
 rw [List.length_set]; exact I.len
end
section
theorem range_getD {α : Type} {l : List Nat} {n : Nat} (h : l.length = n) (f : Nat → α) : (List.range n).map (fun j => f (l.getD j 0)) = l.map f := by
 refine List.ext_getElem? fun j => ?_
 rw [List.getElem?_map, List.getElem?_map]
 by_cases q : j < n
 ·rw [List.getElem?_range q, getD_some (by rw [h]; exact q)]; rfl
 ·rw [List.getElem?_eq_none (by rw [List.length_range]; exact Nat.le_of_not_lt (by assumption)), List.getElem?_eq_none (by lia)]; rfl
theorem prod_dot : ∀ (w d : List Nat), ((w.zip d).map fun p => p.1 * p.2).sum = dot d w
 | [], [] => rfl
 | [], _ :: _ => rfl
 | _ :: _, [] => rfl
 | a :: w, b :: d => by
  show a * b + ((w.zip d).map fun p => p.1 * p.2).sum = b * a + dot d w
  rw [prod_dot w d, Nat.mul_comm]
theorem zip_nat (w d : List Nat) : zipV (w.map nI) (d.map nI) = (w.zip d).map fun p => V.tup [nI p.1, nI p.2] := by
 unfold zipV
 rw [List.zip_map, List.map_map]; rfl
section
variable {C : Ct} {n : Nat} {H : List HObj} {u : V} {l : List Nat}
theorem sum_leB {b : Nat} {l : List Nat} (h : ∀ x ∈ l, x ≤ b) : l.sum ≤ b * l.length := by
 induction l with
 | nil => exact Nat.zero_le _
 | cons a l ih =>
  have h1 := h a (.head _)
  have h2 := ih fun x m => h x (.tail _ m)
  rw [List.sum_cons, List.length_cons, Nat.mul_add, Nat.mul_one]; lia
theorem Fn.sumB (h : Lsy H u (l.map nI)) (hl : ∀ x ∈ l, x ≤ 100000) (hn : l.length ≤ 1000) : Fn C n (.val (.builtin "sum")) [u] [] H H (nI l.sum) := by
 have q := Fn.sum (C := C) (n := n) (ns := natsI l) (u := u) (H := H) (natsV l ▸ h) (fun k => ?_) (fun x m => ?_)
 ·rw [nats_sum] at q; exact q
 ·have e : (natsI l).take k = natsI (l.take k) := List.map_take.symm
  rw [e, nats_sum]
  have h1 := sum_leB (l := l.take k) fun x m => hl x (List.mem_of_mem_take m)
  have h2 : (l.take k).length ≤ l.length := by rw [List.length_take]; exact Nat.min_le_right _ _
  omega
 ·obtain ⟨a, m', rfl⟩ := List.mem_map.mp m
  have := hl a m'
  omega
theorem Bin.pow2 {e : Nat} (h : e ≤ 100) : Bin C n .Pow (.int 2) (nI e) H H (.int ((2 ^ e : Nat) : Int)) := by
 have q := Bin.pow (C := C) (n := n) (H := H) (a := 2) (b := ((e : Nat) : Int)) (Int.natCast_nonneg _) (by lia) (by decide)
 rw [Int.toNat_natCast] at q
 rw [Int.natCast_pow]; exact q
theorem Bin.fdivP {a m : Nat} (hm : 0 < m) (hl : m < 2 ^ 60) : Bin C n .FloorDiv (nI a) (nI m) H H (.int ((a / m : Nat) : Int)) :=
 Bin.fdivE (by lia) (Nat.lt_trans ((Nat.log2_lt (by exact Nat.ne_of_gt (by assumption))).mpr (show ((m : Nat) : Int).natAbs < 2 ^ 60 by assumption)) (by decide)) (fdivN m)
theorem Bin.fmodP {a m : Nat} (hm : 0 < m) : Bin C n .Mod (nI a) (nI m) H H (.int ((a % m : Nat) : Int)) := Bin.fmodE (by lia) (fmodN m)
theorem told_idx {k : Nat} (h : k < 48) : Mth C n (Str.ofString "index") (.lst (tokV (List.range 48))) [.str (tok k)] H H (nI k) "list" "list.index" := by
 have e : (List.range 48).map tok = toldL := told_tok.symm
 refine Mth.index (ns := (List.range 48).map tok) (by rw [List.map_map]; exact Lsy.lst) (by rw [e]; exact tok_get h) (fun i hi => ?_) (by rw [List.length_map, List.length_range]; decide)
 rw [e, tok_get (Nat.lt_trans hi h)]
 exact fun z => absurd (tok_inj (Nat.lt_trans hi h) h (Option.some.inj z)) (Nat.ne_of_lt hi)
theorem Cmp.neSame {a : Int} : Cmp C n .NotEq (.int a) (.int a) H false := by
 have h := Cmp.neI (C := C) (n := n) (H := H) (a := a) (b := a)
 rwa [bne_self_eq_false] at h
theorem Cmp.neNil : Cmp C n .NotEq (.lst []) (.lst []) H false := by
 have h := Cmp.neInts (C := C) (n := n) (H := H) (u := .lst []) (v := .lst []) (xs := []) (ys := []) Lsy.lst Lsy.lst
 exact h
theorem nat_lst {l : List Nat} : Lsy H (.lst (l.map nI)) ((natsI l).map V.int) := by rw [natsV]; exact Lsy.lst
theorem Cmp.eqNats {x y : List Nat} (h : x = y) : Cmp C n .Eq (.lst (x.map nI)) (.lst (y.map nI)) H true := by
 subst h
 have q := Cmp.eqInts (C := C) (n := n) (H := H) (u := .lst (x.map nI)) (v := .lst (x.map nI)) (xs := natsI x) (ys := natsI x) nat_lst nat_lst
 rwa [decide_eq_true rfl] at q
theorem Cmp.eqNatsR {i : Nat} {x y : List Nat} (hi : H[i]? = some (.list (x.map nI))) (h : x = y) : Cmp C n .Eq (.ref i) (.lst (y.map nI)) H true := by
 subst h
 have q := Cmp.eqInts (C := C) (n := n) (H := H) (u := .ref i) (v := .lst (x.map nI)) (xs := natsI x) (ys := natsI x) (by rw [natsV]; exact .ref hi) nat_lst
 rwa [decide_eq_true rfl] at q
theorem Cmp.eqSame {a : Int} : Cmp C n .Eq (.int a) (.int a) H true := by
 have h := Cmp.eqI (C := C) (n := n) (H := H) (a := a) (b := a)
 rwa [beq_self_eq_true] at h
end
theorem arc_mem {d : List Nat} (A : Arc d) {x : Nat} (h : x ∈ d) : x ≤ 5 := by
 obtain ⟨j, hj⟩ := List.getElem?_of_mem h
 have hl := (List.getElem?_eq_some_iff.mp hj).1
 have := A.le j (by rw [← A.len]; exact hl)
 rw [List.getD_eq_getElem?_getD, hj] at this
 exact this
theorem sz_le {d : List Nat} {x : Nat} (h : x ∈ szL d) : x ≤ 64 := by
 obtain ⟨y, _, rfl⟩ := List.mem_map.mp h
 exact Nat.div_le_self _ _
theorem st_lt {d : List Nat} (A : Arc d) {k : Nat} (h : k < 6) : (stL d).getD k 0 < 64 := by
 have h1 := A.lt k h
 have h2 : 0 < 2 ^ (6 - d.getD k 0) := Nat.pow_pos (by decide)
 exact Nat.lt_of_lt_of_le (Nat.lt_add_of_pos_right h2) h1
theorem enum_nat (l : List Nat) {n : Nat} (h : l.length = n) : enumV (l.map nI) = (List.range n).map fun k => V.tup [nI k, nI (l.getD k 0)] := by
 refine List.ext_getElem? fun j => ?_
 by_cases q : j < n
 ·have hl : j < (enumV (l.map nI)).length := by rw [enumV_len, List.length_map, h]; exact q
  obtain ⟨u, hu, e⟩ := enumV_at (List.getElem?_eq_getElem hl)
  rw [List.getElem?_map, getD_some (by rw [h]; exact q)] at hu
  rw [List.getElem?_eq_getElem hl, e, List.getElem?_map, List.getElem?_range q, ← Option.some.inj hu]; rfl
 ·rw [List.getElem?_eq_none (by rw [enumV_len, List.length_map, h]; omega), List.getElem?_eq_none (by rw [List.length_map, List.length_range]; omega)]
structure Three (d : List Nat) (x : Nat) (kk D pl sz : Nat → Nat) : Prop where
 z0 : D 0 = 0
 z1 : pl 0 = 0
 z2 : sz 0 = 262144
 k6 : ∀ i, i < 3 → kk i < 6
 lo : ∀ i, i < 3 → ∀ j, j ≤ kk i → (stL d).getD j 0 ≤ (x - pl i) * 64 / sz i
 hi : ∀ i, i < 3 → ∀ j, kk i < j → j < 6 → (x - pl i) * 64 / sz i < (stL d).getD j 0
 le : ∀ i, i < 3 → pl i ≤ x
 pos : ∀ i, i < 3 → 0 < sz i ∧ sz i ≤ 262144
 dn : ∀ i, i < 3 → D (i + 1) = D i + d.getD (kk i) 0
 pn : ∀ i, i < 3 → pl (i + 1) = pl i + (stL d).getD (kk i) 0 * sz i / 64
 sn : ∀ i, i < 3 → sz (i + 1) = sz i * (szL d).getD (kk i) 0 / 64
 bit : ∀ i, i < 3 → ∀ f, f < d.getD (kk i) 0 → bitN ((stL d).getD (kk i) 0) (5 - f) = bitN x (17 - (D i + f))
 small : ∀ i, i ≤ 3 → D i ≤ 5 * i
theorem three_ok {d : List Nat} (A : Arc d) {x : Nat} (hx : x < 262144) : ∃ kk D pl sz, Three d x kk D pl sz := by
 obtain ⟨N, hN⟩ : ∃ N, N = 262144 := ⟨_, rfl⟩
 have T0 : Turned x 0 0 N := ⟨by decide, hN, by rw [Nat.zero_add]; exact Nat.mod_eq_of_lt hx⟩
 obtain ⟨k0, a1, a2, a3, a4, a5, a6, T1, a8⟩ := turn_ok T0 (by decide) A
 obtain ⟨k1, b1, b2, b3, b4, b5, b6, T2, b8⟩ := turn_ok T1 (by lia) A
 obtain ⟨k2, c1, c2, c3, c4, c5, c6, T3, c8⟩ := turn_ok T2 (by lia) A
 have szb : ∀ {D p s}, Turned x D p s → s ≤ 262144 := fun T => by
  rw [T.size]; exact Nat.le_trans (Nat.pow_le_pow_right (by decide) (Nat.sub_le 18 _)) (by decide)
 generalize hp1 : 0 + (stL d).getD k0 0 * N / 64 = p1 at *
 generalize hs1 : N * (szL d).getD k0 0 / 64 = s1 at *
 generalize hd1 : 0 + d.getD k0 0 = e1 at *
 generalize hp2 : p1 + (stL d).getD k1 0 * s1 / 64 = p2 at *
 generalize hs2 : s1 * (szL d).getD k1 0 / 64 = s2 at *
 generalize hd2 : e1 + d.getD k1 0 = e2 at *
 have two : ∀ {Q : Nat → Prop}, Q 0 → Q 1 → Q 2 → ∀ i, i < 3 → Q i := fun q0 q1 q2 i hi => by
  match i, hi with
  | 0, _ => exact q0
  | 1, _ => exact q1
  | 2, _ => exact q2
 refine ⟨fun i => [k0, k1, k2].getD i 0, fun i => [0, e1, e2, e2 + d.getD k2 0].getD i 0, fun i => [0, p1, p2, p2 + (stL d).getD k2 0 * s2 / 64].getD i 0, fun i => [N, s1, s2, s2 * (szL d).getD k2 0 / 64].getD i 0, rfl, rfl, hN, two a1 b1 c1, two a2 b2 c2, two a3 b3 c3, two a4 b4 c4, two ⟨a5, szb T0⟩ ⟨b5, szb T1⟩ ⟨c5, szb T2⟩, two hd1.symm hd2.symm rfl, two hp1.symm hp2.symm rfl, two hs1.symm hs2.symm rfl, two a8 b8 c8, fun i hi => ?_⟩
 match i, hi with
 | 0, _ => exact Nat.le_refl _
 | 1, _ => show e1 ≤ 5; lia
 | 2, _ => show e2 ≤ 10; lia
 | 3, _ => show e2 + d.getD k2 0 ≤ 15; lia
noncomputable def figs (x n : Nat) : List Nat := (List.range n).map fun j => bitN x (17 - j)
theorem figs_more (x n m : Nat) : figs x (n + m) = figs x n ++ (List.range m).map fun f => bitN x (17 - (n + f)) := by
 unfold figs
 rw [List.range_add, List.map_append, List.map_map]; rfl
end
theorem Co.src {C : Ct} {n : Nat} {env : Env} {t elt : PySem.Expr} {ifs : List PySem.Expr} {σ : Loc} {H : List HObj} {l l' rs : List V} (e : l = l') (h : Co C n env t ifs elt σ H l' rs) : Co C n env t ifs elt σ H l rs := e ▸ h
theorem SrcE.eql {C : Ct} {n : Nat} {env : Env} {σ : Loc} {H H1 : List HObj} {iter : PySem.Expr} {Ok : List HObj → Prop} {T : PySem.Expr → Bool} {l l' : List V} (h : SrcE C n env σ H iter H1 Ok T l) (q : l = l') : SrcE C n env σ H iter H1 Ok T l' := q ▸ h
noncomputable def shelfN (d : List Nat) : List Nat := stL d ++ (stL d ++ stL d)
theorem shelf_len (d : List Nat) : (shelfN d).length = 18 := by unfold shelfN; rw [List.length_append, List.length_append, stL_len]
theorem shelf_eq (d : List Nat) : V.lst (List.replicate (3 : Int).toNat ((stL d).map nI)).flatten = .lst ((shelfN d).map nI) := by
 unfold shelfN
 rw [List.map_append, List.map_append]
 show V.lst ((stL d).map nI ++ ((stL d).map nI ++ ((stL d).map nI ++ []))) = _
 rw [List.append_nil]
theorem shelf_at (d : List Nat) {i j : Nat} (hi : i < 3) (hj : j < 6) : (shelfN d).getD (6 * i + j) 0 = (stL d).getD j 0 := by
 have hl := stL_len d
 unfold shelfN
 rw [List.getD_eq_getElem?_getD, List.getD_eq_getElem?_getD]
 match i, hi with
 | 0, _ => rw [List.getElem?_append_left (by lia), show 6 * 0 + j = j from by exact Nat.add_comm _ _]
 | 1, _ => rw [List.getElem?_append_right (by exact Nat.le_add_right _ _), List.getElem?_append_left (by omega), show 6 * 1 + j - (stL d).length = j from by omega]
 | 2, _ => rw [List.getElem?_append_right (by lia), List.getElem?_append_right (by lia), show 6 * 2 + j - (stL d).length - (stL d).length = j from by omega]
theorem natL_at {l : List Nat} {i : Nat} {v : V} (h : (l.map nI)[i]? = some v) : v = nI (l.getD i 0) := by
 rw [List.getElem?_map] at h
 obtain ⟨q, h1, h2⟩ := Option.map_eq_some_iff.mp h
 rw [List.getD_eq_getElem?_getD, h1, ← h2]; rfl
theorem natV_dat (l : List Nat) : datL (l.map nI) = true := datL_iff.mpr fun v m => by
 obtain ⟨q, _, rfl⟩ := List.mem_map.mp m; rfl
theorem figs_len (x n : Nat) : (figs x n).length = n := by unfold figs; rw [List.length_map, List.length_range]
theorem tok_item {k : Nat} (h : k < 48) : (tokV (List.range 48))[((k : Nat) : Int).toNat]? = some (.str (tok k)) := by
 rw [Int.toNat_natCast, List.getElem?_map, List.getElem?_range h]; rfl
theorem mem_tok {sg : List Nat} (h : ∀ k ∈ sg, k < 48) {k : Nat} (hk : k < 48) : decide (tok k ∈ sg.map tok) = decide (k ∈ sg) := decide_eq_decide.mpr ⟨fun m => by
 obtain ⟨j, mj, e⟩ := List.mem_map.mp m
 rw [← tok_inj (h j mj) hk e]; exact mj, fun m => List.mem_map.mpr ⟨k, m, rfl⟩⟩
theorem zip_tok {P : List PT} {ks : List Nat} : zipV ((ks.map (wgt P)).map nI) (tokV ks) = ks.map fun k => V.tup [nI (wgt P k), .str (tok k)] := by
 unfold zipV tokV
 induction ks with
 | nil => rfl
 | cons k ks ih => rw [List.map_cons, List.map_cons, List.map_cons, List.zip_cons_cons, List.map_cons, ih]; rfl
set_option maxHeartbeats 8000000 in
theorem law_core (c1 : C1) {ns : List Int} (hns : ns.length ≤ 100) {cl sg ks d : List Nat} (h8 : cl.length = 8) (hcells : V.lst (bases.zipIdx.map fun q => V.int (q.1 + ((sel ns q.2).map fun x => x.fmod 1000000).sum)) = .lst (cl.map nI)) (hsg : sg = sgF (cl.getD 6 0)) (hsg48 : ∀ k ∈ sg, k < 48) (hks : ks = ksF sg)
  {P : List PT} {T : Tr} (D : DealW P ks d T) {Hb Hw Ht Hg Hd : List HObj} {jp jw j ia jd : Nat} (b6 : 6 ≤ Hb.length) (hbook : Fn c1.ct 7 (.val (.ref 263)) [.lst (tokV sg), .lst (cl.map nI)] [] law0 Hb (.tup [.sem (instA 247 2), .ref jp, .bool true]))
  (hw : Fn c1.ct 7 (.val (.ref 268)) [.sem (instA 247 2), .ref jp, .lst (tokV ks)] [] Hb Hw (.ref jw)) (w6 : 6 ≤ Hw.length) (hjw : Hw[jw]? = some (.list ((ks.map (wgt P)).map nI)))
  (htree : Fn c1.ct 5 (.val (.ref 247)) [] [] Hw Ht (.sem (instA 247 j))) (t6 : 6 ≤ Ht.length) (htw : Ht[jw]? = some (.list ((ks.map (wgt P)).map nI)))
  (hgrown : Fn c1.ct 7 (.val (.ref 273)) [.lst (rowV (rwF P ks)), .sem (instA 247 j)] [] (Ht ++ [.sem pairA]) Hg (nI T.top)) (g6 : 6 ≤ Hg.length)
  (hdep : Fn c1.ct 5 (.val (.ref 278)) [nI T.top, .sem (instA 247 j)] [] Hg Hd (.ref jd)) (d6 : 6 ≤ Hd.length) (hdj : Hd[j]? = some (.sem (ownA HX ia))) (hdi : Hd[ia]? = some (.list (pairsV (prsN (rwF P ks) 5)))) (hdd : Hd[jd]? = some (.sem (dictA c1.ct (T.deps 0 ++ [(0, 11)])))) (hd6 : (T.deps 0).length ≤ 6)
  (hdw : Hd[jw]? = some (.list ((ks.map (wgt P)).map nI))) (hd0 : Hd[0]? = law0[0]?) (hd1 : Hd[1]? = law0[1]?) {kk Dn pl sz : Nat → Nat} (F : Three d (cl.getD 7 0 % 262144) kk Dn pl sz) : FnL c1.ct.raw 9 (.val (.ref 295)) [.lst (ns.map V.int)] law0 := by
 refine' fnL (ns := [Str.ofString "script"]) (vs := [.lst (ns.map V.int)]) ?ho ?hb ?hst ?hcd ?hns ?hnd ?hbind ?hbody
 walk_at "t_of"
 case hbind => exact bind1 fun q_ => Looks.of_pure rfl
 case hbody =>
  intro A env hS hA hfr h3; dsimp only at hS
  refine ExK.first (Es0.assign (Ev0.eqv (Ev0.comp hS (SrcE0.eql (SrcE0.enum (g_enumerate _) (by boot_by_name) (kind_of hS rfl) (EvL.cons Ev.int (EvL.cons Ev.int (EvL.cons Ev.int (EvL.cons Ev.int (EvL.cons Ev.int (EvL.cons Ev.int (EvL.cons Ev.int EvL.nil))))))) (Nat.le_of_ble_eq_true rfl)) enum_bases) rfl (fun K => trivial) (by kernel_rfl) (fun cenv hC1 => (Co.map (f := fun (q : Int × Nat) => V.tup [.int (q.2 : Int), .int q.1]) (g := fun q => V.int (q.1 + ((sel ns q.2).map fun x => x.fmod 1000000).sum)) (l := bases.zipIdx) (fun q hq => ⟨_, (fun K => (Ast.tup (AsL.cons (Ast.name (.inl ⟨kind_of hC1 rfl, rfl⟩)) (AsL.cons (Ast.name (.inl ⟨kind_of hC1 rfl, rfl⟩)) AsL.nil)) locals_nonSeq)), (fun K => (Ev.bin (Ev.loc rfl) (Ev.call (gB (g_sum _) (kind_of hC1 rfl)) (EvA.args (EvL.cons (Ev.compS hC1 (SrcE.eql (SrcE.of (Ev.sliceL (Ev.sliceL (Ev.loc rfl) EvP.none (EvP.some Ev.int) EvP.none Lsy.lst (by decide) (le_size (by rw [List.length_map]; lia)) (fun q_ q_ => ⟨_, rfl⟩)) (EvP.some (Ev.loc rfl)) EvP.none (EvP.some Ev.int) Lsy.lst (by decide) (le_size (sel_len0 hns)) (fun q_ q_ => ⟨_, rfl⟩)) (Src.lst Lsy.lst)) (sel_map ns q.2)) rfl (fun K => Lsy.lst) (by kernel_rfl) (fun cenv hC2 => (Co.eqr (rs' := ((sel ns q.2).map fun x => x.fmod 1000000).map V.int) (Co.map (f := V.int) (g := fun x => V.int (x.fmod 1000000)) (l := sel ns q.2) (fun x hx => ⟨_, (fun K => (Ast.name (.inl ⟨kind_of hC2 rfl, rfl⟩))), (fun K => (Ev.bin (Ev.loc rfl) (Ev.bin Ev.int Ev.int (Bin.pow (a := 10) (b := 6) (by decide) (by decide) (by decide))) (Bin.fmod (by decide)))), rfl, (sub_cons rfl)⟩)) (by rw [List.map_map]; rfl))) (le_size (sel_len1 hns)) (fun q_ q_ => rfl) (Nat.le_refl _)) EvL.nil)) (by exact Fn.sum Lsy.lst (sel_sums hns) (sel_each ns _)) Kp.blt) Bin.addInt)), rfl, (sub_two rfl rfl)⟩))) (le_size (by decide)) (fun q_ q_ => rfl) (Nat.le_refl _)) (hcells)) (.inr (kind_of hS rfl)) (swaps_of hS (by intro e he; cases e; dsimp only at he; subst he; rfl))) ?_ (Nat.le_refl _)
  refine ExK.cons (Es.assign (Ev.eqv (Ev.meth0 Ev.str (by exact Mth.split (le_size (by decide)) told_spaces) (Typ.str) rfl rfl) told_val) (.inr (kind_of hS rfl)) rfl) ?_ (by decide)
  refine ExK.cons (Es.assign (Ev.compS hS (SrcE.of (Ev.call (gB (g_range _) (kind_of hS rfl)) (EvA.args (EvL.cons Ev.int EvL.nil)) Fn.range1 Kp.typ) (Src.rng (a := 0) (b := ((6 : Nat) : Int)) (by decide) (by decide) (by decide) (by decide))) rfl (fun q_ => trivial) (by kernel_rfl) (fun cenv hC2 => (Co.eqr (rs' := tokV sg) (by rw [rng0]; exact Co.map (f := nI) (g := fun k => V.str (tok (((cl.getD 6 0) + k * (1 + (cl.getD 6 0) / 48 % 11)) % 48))) (l := List.range 6) (fun k hk => by
   have hk := List.mem_range.mp hk
   exact ⟨_, (fun K => (Ast.name (.inl ⟨kind_of hC2 rfl, rfl⟩))), (fun K => (Ev.sub (Ev.loc rfl) (Ev.bin (Ev.bin (Ev.sub (Ev.loc rfl) Ev.int (Itm.lst (v := nI (cl.getD 6 0)) Lsy.lst (by decide) (by decide) (natV_at (m := 6) (by lia)) (fun q_ q_ => rfl))) (Ev.bin (Ev.loc rfl) (Ev.bin Ev.int (Ev.bin (Ev.bin (Ev.sub (Ev.loc rfl) Ev.int (Itm.lst (v := nI (cl.getD 6 0)) Lsy.lst (by decide) (by decide) (natV_at (m := 6) (by omega)) (fun q_ q_ => rfl))) Ev.int (Bin.fdivE (r := (((cl.getD 6 0) / 48 : Nat) : Int)) (by decide) (by decide) (fdivN 48))) Ev.int (Bin.fmodE (r := (((cl.getD 6 0) / 48 % 11 : Nat) : Int)) (by decide) (fmodN 11))) (Bin.addE (r := ((1 + (cl.getD 6 0) / 48 % 11 : Nat) : Int)) rfl)) (Bin.mulE (r := ((k * (1 + (cl.getD 6 0) / 48 % 11) : Nat) : Int)) (mulOk (by omega)) (Int.natCast_mul _ _).symm)) (Bin.addE (r := (((cl.getD 6 0) + k * (1 + (cl.getD 6 0) / 48 % 11) : Nat) : Int)) (Int.natCast_add _ _).symm)) Ev.int (Bin.fmodE (r := ((((cl.getD 6 0) + k * (1 + (cl.getD 6 0) / 48 % 11)) % 48 : Nat) : Int)) (by decide) (fmodN 48))) (Itm.lst Lsy.lst (Int.natCast_nonneg _) (by omega) (tok_item (Nat.mod_lt _ (by decide))) (fun q_ q_ => rfl)))), rfl, (sub_cons rfl)⟩)) (by rw [hsg]; unfold sgF tokV; rw [List.map_map]; rfl))) (Nat.le_of_ble_eq_true rfl) (fun q_ q_ => rfl) (Nat.le_refl _)) (.inr (kind_of hS rfl)) (swaps_of hS (by intro e he; cases e; dsimp only at he; subst he; rfl))) ?_ (by decide)
  refine ExK.cons (Es.compS hS (SrcE.of (Ev.loc rfl) (Src.lst Lsy.lst)) rfl (fun q_ => Lsy.lst) (by kernel_rfl) (fun cenv hC3 => (Co.eqr (rs' := tokV ks) (Co.pick (f := fun k => V.str (tok k)) (p := fun k => decide (k ∈ sg)) (g := fun k => V.str (tok k)) (l := List.range 48) (fun k hk => ⟨_, (fun K => (Ast.name (.inl ⟨kind_of hC3 rfl, rfl⟩))), (fun K => (TstL.one (Tst.eqb (Tst.cmp (Ev.loc rfl) (Ev.loc rfl) (Cmp.inStrs (ns := sg.map tok) (by rw [List.map_map]; exact Lsy.lst))) (mem_tok hsg48 (List.mem_range.mp hk))))), (fun q_ => ⟨(fun K => (Ev.loc rfl)), rfl⟩), (sub_cons rfl)⟩)) (by rw [hks]; rfl))) (Nat.le_of_ble_eq_true (by rw [List.length_map]; rfl)) (fun q_ q_ => rfl) (Nat.le_refl _) (il hS rfl) (by intro e he; cases e; dsimp only at he; subst he; rfl)) ?_ (by decide)
  refine ExK.cons (Es.assignT (Ev.call (gV (g_law_booked _) (kind_of hS rfl)) (EvA.args (EvL.cons (Ev.loc rfl) (EvL.cons (Ev.loc rfl) EvL.nil))) (hbook.le (by decide)) (kp_law_booked _)) (AsL.cons (Ast.name (.inr ⟨(il hS rfl), rfl⟩)) (AsL.cons (Ast.name (.inr ⟨(il hS rfl), rfl⟩)) (AsL.cons (Ast.name (.inr ⟨(il hS rfl), rfl⟩)) AsL.nil))) (sw_of hS (by intro e he; cases e; dsimp only at he; subst he; rfl)) (ss_of hS (by intro e he; cases e; dsimp only at he; subst he; rfl))) ?_ (by decide)
  refine ExK.cons (Es.assign (Ev.ifTb (Tst.val (Ev.loc rfl) Tru.bool rfl) (by rfl) (Ev.call (gV (g_law_weights _) (kind_of hS rfl)) (EvA.args (EvL.cons (Ev.loc rfl) (EvL.cons (Ev.loc rfl) (EvL.cons (Ev.loc rfl) EvL.nil)))) (hw.le (by decide)) (kp_law_weights _))) (il hS rfl) rfl) ?_ (by show 2 ≤ _; lia)
  refine ExK.cons (Es.ifFb (Tst.cmp (Ev.loc rfl) (Ev.lst EvL.nil) (Cmp.eqInts (xs := natsI (ks.map (wgt P))) (ys := []) (by rw [natsV]; exact .ref hjw) Lsy.lst)) (decide_eq_false (fun z => by have := congrArg List.length z; rw [List.length_map, List.length_map, D.k6] at this; exact absurd this (by decide))) Ex.nil) ?_ (by show 2 ≤ _; lia)
  refine ExK.cons (Es.assign (Ev.call (gV (g_Headers _) (kind_of hS rfl)) EvA.nil (htree.le (by decide)) (kp_Headers _)) (il hS rfl) rfl) ?_ (by show 2 ≤ _; omega)
  refine ExK.cons (Es.assign (Ev.call (gV (g_law_grown _) (kind_of hS rfl)) (EvA.args (EvL.cons (Ev.compS hS (SrcE.call (gB (g_zip _) (kind_of hS rfl)) (EvA.args (EvL.cons (Ev.loc rfl) (EvL.cons (Ev.loc rfl) EvL.nil))) (FnI.zip (l := (ks.map (wgt P)).map nI) (l' := tokV ks) (by rw [List.length_map, List.length_map, List.length_map]) (.ref htw) Lsy.lst) Kp.typ (fun q_ => rfl)) rfl (fun q_ => ⟨(Lsy.ref htw).app.app, Lsy.lst, getElem?_append_some at_last⟩) (by kernel_rfl) (fun cenv hC4 => (Co.eqr (rs' := rowV (rwF P ks)) (by rw [zip_tok]; exact Co.map (f := fun k => V.tup [nI (wgt P k), .str (tok k)]) (g := fun k => V.tup [nI (wgt P k), nI (208 + k)]) (l := ks) (fun k hk => ⟨_, (fun K => (Ast.tup (AsL.cons (Ast.name (.inl ⟨kind_of hC4 rfl, rfl⟩)) (AsL.cons (Ast.name (.inl ⟨kind_of hC4 rfl, rfl⟩)) AsL.nil)) locals_nonSeq)), (fun K => (Ev.tup (EvL.cons (Ev.loc rfl) (EvL.cons (Ev.call (gV (g_law_number _) (kind_of hC4 rfl)) (EvA.args (EvL.cons (Ev.bin (Ev.loc rfl) Ev.str (Bin.addS (Nat.le_trans (tok_len (D.k48 k hk)) (by decide)))) EvL.nil)) ((fn_num (b := false) c1 _ (D.k48 k hk)).le (by decide)) (kp_law_number _)) EvL.nil)))), rfl, (sub_two rfl rfl)⟩)) (by unfold rowV rwF; rw [List.map_map]; rfl))) (by rw [zip_tok, List.length_map, D.k6]; decide) (fun q_ q_ => rfl) (by rw [List.length_append]; exact Nat.le_add_right _ _)) (EvL.cons (Ev.loc rfl) EvL.nil))) (hgrown.le (by decide)) (kp_law_grown _)) (il hS rfl) rfl) ?_ (by show 2 ≤ _; lia)
  refine ExK.cons (Es.assign (Ev.call (gV (g_law_depths _) (kind_of hS rfl)) (EvA.args (EvL.cons (Ev.loc rfl) (EvL.cons (Ev.loc rfl) EvL.nil))) (hdep.le (by decide)) (kp_law_depths _)) (.inr (kind_of hS rfl)) rfl) ?_ (by show 2 ≤ _; lia)
  refine ExK.cons (Es.ifFb (Tst.boolOp (BoT.nextb (Tst.cmp (Ev.hdr (hm_keys _) (Ev.loc rfl) hdj EvA.nil ((fn_keys c1 _ hdj hdi (by rw [prsN_len]; decide)).le (by decide)) rfl rfl) (Ev.compS hS (SrcE.of (Ev.call (gB (g_range _) (kind_of hS rfl)) (EvA.args (EvL.cons Ev.int EvL.nil)) Fn.range1 Kp.typ) (Src.rng (a := 0) (b := ((5 : Nat) : Int)) (by decide) (by decide) (by decide) (by decide))) rfl (fun q_ => trivial) (by kernel_rfl) (fun cenv hC6 => (Co.eqr (rs' := ((List.range 5).map fun k => numS (256 + k)).map V.str) (by rw [rng0]; exact Co.map (f := nI) (g := fun k => V.str (numS (256 + k))) (l := List.range 5) (fun k hk => by
   have hk := List.mem_range.mp hk
   exact ⟨_, (fun K => (Ast.name (.inl ⟨kind_of hC6 rfl, rfl⟩))), (fun K => (Ev.call (gB (g_str _) (kind_of hC6 rfl)) (EvA.args (EvL.cons (Ev.bin Ev.int (Ev.loc rfl) (Bin.addE (r := ((256 + k : Nat) : Int)) rfl)) EvL.nil)) (Fn.strN (a := 256 + k) (by lia)) Kp.typ)), rfl, (sub_cons rfl)⟩)) (by rw [List.map_map]; rfl))) (Nat.le_of_ble_eq_true rfl) (fun q_ q_ => rfl) (Nat.le_refl _)) (Cmp.neStrs (xs := (List.range 5).map fun k => numS (256 + k)) (ys := (List.range 5).map fun k => numS (256 + k)) (by rw [prs_five]; exact Lsy.lst) Lsy.lst)) (by rw [decide_eq_true rfl]; rfl) (BoT.nextb (Tst.cmp (Ev.call (gB (g_sorted _) (kind_of hS rfl)) (EvA.args (EvL.cons (Ev.loc rfl) EvL.nil)) ((Fn.sortedI (n := 0) (ns' := 0 :: ks.map keyK) (Col.dict hdd (Nat.le_trans (by rw [List.length_append]; exact Nat.add_le_add_right D.len 1) (by decide))) (by rw [List.length_map, List.length_append]; exact Nat.lt_of_le_of_lt (Nat.add_le_add_right hd6 1) (by decide)) D.sort).le (by decide)) Kp.blt) (Ev.eqv (v1 := .lst ((0 :: ks.map keyK).map V.int)) (Ev.bin (Ev.lst (EvL.cons Ev.int EvL.nil)) (Ev.compS hS (SrcE.of (Ev.loc rfl) (Src.lst Lsy.lst)) rfl (fun q_ => Lsy.lst) (by kernel_rfl) (fun cenv hC5 => (Co.eqr (rs' := (ks.map keyK).map V.int) (by exact Co.map (f := fun k => V.str (tok k)) (g := fun k => V.int (keyK k)) (l := ks) (fun k hk => ⟨_, (fun K => (Ast.name (.inl ⟨kind_of hC5 rfl, rfl⟩))), (fun K => (Ev.bin Ev.int (Ev.meth (Ev.loc rfl) (EvL.cons (Ev.loc rfl) EvL.nil) (told_idx (D.k48 k hk)) (Typ.lst Lsy.lst) rfl rfl rfl rfl (fun q_ q_ q_ q_ q_ h => Calls.evalArgs_plain h)) (Bin.addE (r := keyK k) (by show 208 + ((k : Nat) : Int) = ((208 + k : Nat) : Int); rfl)))), rfl, (sub_cons rfl)⟩)) (by rw [List.map_map]; rfl))) (by rw [List.length_map, D.k6]; decide) (fun q_ q_ => rfl) (Nat.le_refl _)) (Bin.addL Lsy.lst Lsy.lst (by rw [List.length_map, List.length_map, D.k6]; decide))) rfl) (Cmp.neInts (xs := 0 :: ks.map keyK) (ys := 0 :: ks.map keyK) Lsy.lst Lsy.lst)) (by rw [decide_eq_true rfl]; rfl) (BoT.nextb (Tst.cmp (Ev.sub (Ev.loc rfl) Ev.int (Itm.dictI hdd D.look0 (fun q_ q_ => rfl))) Ev.int Cmp.neSame) rfl BoT.nil)))) rfl Ex.nil) ?_ (by show 2 ≤ _; lia)
  refine ExK.cons (Es.compS hS (SrcE.of (Ev.loc rfl) (Src.lst Lsy.lst)) rfl (fun q_ => Lsy.lst) (by kernel_rfl) (fun cenv hC7 => (Co.eqr (rs' := d.map nI) (Co.src (range_getD D.k6 (fun k => V.str (tok k))).symm (Co.map (f := fun k => V.str (tok (ks.getD k 0))) (g := fun k => nI (d.getD k 0)) (l := List.range 6) (fun k hk => by
   have hk := List.mem_range.mp hk
   exact ⟨_, (fun K => (Ast.name (.inl ⟨kind_of hC7 rfl, rfl⟩))), (fun K => (Ev.sub (Ev.loc rfl) (Ev.bin Ev.int (Ev.meth (Ev.loc rfl) (EvL.cons (Ev.loc rfl) EvL.nil) (told_idx (D.k48 _ (List.mem_of_getElem? (getD_some (by rw [D.k6]; exact hk))))) (Typ.lst Lsy.lst) rfl rfl rfl rfl (fun q_ q_ q_ q_ q_ h => Calls.evalArgs_plain h)) (Bin.addE (r := keyK (ks.getD k 0)) (by show 208 + (((ks.getD k 0) : Nat) : Int) = ((208 + (ks.getD k 0) : Nat) : Int); rfl))) (Itm.dictI (getElem?_append_some hdd) (D.look k hk) (fun q_ q_ => rfl)))), rfl, (sub_cons rfl)⟩))) (range_getD D.arc.len nI))) (by rw [List.length_map, D.k6]; decide) (fun q_ q_ => rfl) (Nat.le_refl _) (il hS rfl) (by intro e he; cases e; dsimp only at he; subst he; rfl)) ?_ (by show 2 ≤ _; omega)
  refine ExK.cons (Es.assign (Ev.compS hS (SrcE.of (Ev.loc rfl) (Src.lst Lsy.lst)) rfl (fun q_ => Lsy.lst) (by kernel_rfl) (fun cenv hC8 => (Co.eqr (rs' := (szL d).map nI) (by exact Co.map (f := nI) (g := fun k => nI (64 / 2 ^ k)) (l := d) (fun k hk => ⟨_, (fun K => (Ast.name (.inl ⟨kind_of hC8 rfl, rfl⟩))), (fun K => (Ev.bin Ev.int (Ev.bin Ev.int (Ev.loc rfl) (Bin.pow2 (Nat.le_trans (arc_mem D.arc hk) (by decide)))) (Bin.fdivP (a := 64) (Nat.pow_pos (by decide)) (Nat.lt_of_le_of_lt (Nat.pow_le_pow_right (by decide) (arc_mem D.arc hk)) (by decide))))), rfl, (sub_cons rfl)⟩)) (by unfold szL; rw [List.map_map]; rfl))) (by rw [List.length_map, D.arc.len]; decide) (fun q_ q_ => rfl) (Nat.le_refl _)) (.inr (kind_of hS rfl)) (swaps_of hS (by intro e he; cases e; dsimp only at he; subst he; rfl))) ?_ (by show 2 ≤ _; omega)
  refine ExK.cons (Es.assign (Ev.compS hS (SrcE.of (Ev.call (gB (g_range _) (kind_of hS rfl)) (EvA.args (EvL.cons Ev.int EvL.nil)) Fn.range1 Kp.typ) (Src.rng (a := 0) (b := ((6 : Nat) : Int)) (by decide) (by decide) (by decide) (by decide))) rfl (fun q_ => trivial) (by kernel_rfl) (fun cenv hC9 => (Co.eqr (rs' := (stL d).map nI) (by rw [rng0]; exact Co.map (f := nI) (g := fun k => nI ((szL d).take k).sum) (l := List.range 6) (fun k hk => by
   have hk := List.mem_range.mp hk
   exact ⟨_, (fun K => (Ast.name (.inl ⟨kind_of hC9 rfl, rfl⟩))), (fun K => (Ev.call (gB (g_sum _) (kind_of hC9 rfl)) (EvA.args (EvL.cons (Ev.eqv (v1 := .lst (((szL d).take k).map nI)) (Ev.sliceL (Ev.loc rfl) EvP.none (EvP.some (Ev.loc rfl)) EvP.none Lsy.lst (by decide) (by rw [List.length_map, szL_len, D.arc.len]; decide) (fun q_ q_ => ⟨_, rfl⟩)) (congrArg V.lst (by rw [pick_upto, List.map_take]))) EvL.nil)) (Fn.sumB (l := (szL d).take k) Lsy.lst (fun x m => Nat.le_trans (sz_le (List.mem_of_mem_take m)) (by decide)) (Nat.le_trans (List.length_take_le' _ _) (by rw [szL_len, D.arc.len]; decide))) Kp.blt)), rfl, (sub_cons rfl)⟩)) (by unfold stL; rw [List.map_map]; rfl))) (Nat.le_of_ble_eq_true rfl) (fun q_ q_ => rfl) (Nat.le_refl _)) (.inr (kind_of hS rfl)) (swaps_of hS (by intro e he; cases e; dsimp only at he; subst he; rfl))) ?_ (by show 2 ≤ _; omega)
  refine ExK.cons (Es.ifFb (Tst.cmp (Ev.compS hS (SrcE.of (Ev.call (gB (g_range _) (kind_of hS rfl)) (EvA.args (EvL.cons Ev.int EvL.nil)) Fn.range1 Kp.typ) (Src.rng (a := 0) (b := ((6 : Nat) : Int)) (by decide) (by decide) (by decide) (by decide))) rfl (fun q_ => trivial) (by kernel_rfl) (fun cenv hC10 => (Co.eqr (rs' := []) (by rw [rng0]; exact Co.pick (f := nI) (p := fun _ => false) (g := nI) (l := List.range 6) (fun k hk => by
   have hk := List.mem_range.mp hk
   exact ⟨_, (fun K => (Ast.name (.inl ⟨kind_of hC10 rfl, rfl⟩))), (fun K => (TstL.one (Tst.eqb (b' := false) (Tst.cmp (Ev.bin (Ev.sub (Ev.loc rfl) (Ev.loc rfl) (Itm.lst Lsy.lst (Int.natCast_nonneg _) (by omega) (natV_at (by rw [stL_len]; exact hk)) (fun q_ q_ => rfl))) (Ev.sub (Ev.loc rfl) (Ev.loc rfl) (Itm.lst Lsy.lst (Int.natCast_nonneg _) (by omega) (natV_at (by rw [szL_len, D.arc.len]; exact hk)) (fun q_ q_ => rfl))) (Bin.fmodP (by rw [D.arc.size k hk]; exact Nat.pow_pos (by decide)))) Ev.int Cmp.neI) (by rw [D.arc.size k hk, D.arc.div k hk]; rfl)))), (fun q_ => nomatch q_), (sub_cons rfl)⟩)) rfl)) (Nat.le_of_ble_eq_true rfl) (fun q_ q_ => rfl) (Nat.le_refl _)) (Ev.lst EvL.nil) Cmp.neNil) (by rfl) Ex.nil) ?_ (by show 2 ≤ _; omega)
  refine ExK.cons (Es.ifFb (Tst.cmp (Ev.eqv (v1 := nI (optF 6 (ks.map (wgt P)))) (Ev.call (gB (g_sum _) (kind_of hS rfl)) (EvA.args (EvL.cons (Ev.compS hS (SrcE.call (gB (g_zip _) (kind_of hS rfl)) (EvA.args (EvL.cons (Ev.loc rfl) (EvL.cons (Ev.loc rfl) EvL.nil))) (FnI.zip (l := (ks.map (wgt P)).map nI) (l' := d.map nI) (by rw [List.length_map, List.length_map, List.length_map, D.k6, D.arc.len]) (.ref hdw) Lsy.lst) Kp.typ (fun q_ => rfl)) rfl (fun q_ => ⟨(Lsy.ref hdw).app.app, Lsy.lst, getElem?_append_some at_last⟩) (by kernel_rfl) (fun cenv hC11 => (Co.eqr (rs' := (((ks.map (wgt P)).zip d).map fun p => p.1 * p.2).map nI) (by rw [zip_nat]; exact Co.map (f := fun q => V.tup [nI q.1, nI q.2]) (g := fun q => nI (q.1 * q.2)) (l := (ks.map (wgt P)).zip d) (fun q hk => ⟨_, (fun K => (Ast.tup (AsL.cons (Ast.name (.inl ⟨kind_of hC11 rfl, rfl⟩)) (AsL.cons (Ast.name (.inl ⟨kind_of hC11 rfl, rfl⟩)) AsL.nil)) locals_nonSeq)), (fun K => (Ev.bin (Ev.loc rfl) (Ev.loc rfl) (Bin.mulE (r := ((q.1 * q.2 : Nat) : Int)) (mulOk (by have := D.small q.1 (List.of_mem_zip hk).1; omega)) (Int.natCast_mul _ _).symm))), rfl, (sub_two rfl rfl)⟩)) (by rw [List.map_map]; rfl))) (by rw [zip_nat, List.length_map, List.length_zip, List.length_map, D.k6, D.arc.len]; decide) (fun q_ q_ => rfl) (by rw [List.length_append]; exact Nat.le_add_right _ _)) EvL.nil)) (Fn.sumB (l := ((ks.map (wgt P)).zip d).map fun p => p.1 * p.2) Lsy.lst (fun x m => by obtain ⟨q, mq, rfl⟩ := List.mem_map.mp m; exact Nat.le_trans (Nat.mul_le_mul (D.small q.1 (List.of_mem_zip mq).1) (arc_mem D.arc (List.of_mem_zip mq).2)) (by decide)) (by rw [List.length_map, List.length_zip, List.length_map, D.k6, D.arc.len]; decide)) Kp.blt) (congrArg nI ((prod_dot _ _).trans D.opt))) (Ev.call (gV (g_law_least _) (kind_of hS rfl)) (EvA.args (EvL.cons (Ev.loc rfl) EvL.nil)) ((fn_least c1 _ (ws := ks.map (wgt P)) (.ref (getElem?_append_some hdw)) (by rw [List.length_map]; exact D.k6) D.small).le (by decide)) (kp_law_least _)) Cmp.neSame) (by rfl) Ex.nil) ?_ (by show 2 ≤ _; omega)
  refine ExK.cons (Es.compS hS (SrcE.call (gB (g_enumerate _) (kind_of hS rfl)) (EvA.args (EvL.cons (Ev.loc rfl) EvL.nil)) (FnI.enum Lsy.lst) Kp.typ (fun q_ => rfl)) rfl (fun q_ => Lsy.lst) (by kernel_rfl) (fun cenv hC12 => (Co.eqr (rs' := (stL d).map nI) (by rw [enum_nat (stL d) (stL_len d)]; exact Co.map (f := fun k => V.tup [nI k, nI ((stL d).getD k 0)]) (g := fun k => nI ((stL d).getD k 0)) (l := List.range 6) (fun k hk => by
   have hk := List.mem_range.mp hk
   exact ⟨_, (fun K => (Ast.tup (AsL.cons (Ast.name (.inl ⟨kind_of hC12 rfl, rfl⟩)) (AsL.cons (Ast.name (.inl ⟨kind_of hC12 rfl, rfl⟩)) AsL.nil)) locals_nonSeq)), (fun K => (Ev.call (gV (g_law_told _) (kind_of hC12 rfl)) (EvA.args (EvL.cons (Ev.loc rfl) (EvL.cons Ev.int (EvL.cons (Ev.bin (Ev.bin (Ev.sub (Ev.loc rfl) Ev.int (Itm.lst (v := nI (cl.getD 6 0)) Lsy.lst (by decide) (by decide) (natV_at (m := 6) (by omega)) (fun q_ q_ => rfl))) Ev.int (Bin.fdivE (r := (((cl.getD 6 0) / 528 : Nat) : Int)) (by decide) (by decide) (fdivN 528))) (Ev.bin (Ev.loc rfl) Ev.int (Bin.mulE (r := ((k * 5 : Nat) : Int)) (mulOk (by omega)) (Int.natCast_mul _ _).symm)) (Bin.addE (r := (((cl.getD 6 0) / 528 + k * 5 : Nat) : Int)) (Int.natCast_add _ _).symm)) (EvL.cons (Ev.bin (Ev.loc rfl) Ev.int (Bin.fmodE (r := ((k % 2 : Nat) : Int)) (by decide) (fmodN 2))) EvL.nil))))) ((fn_told c1 _ (k := 262144) ⟨Int.natCast_nonneg _, by have := st_lt D.arc hk; exact Int.ofNat_lt.mpr (by assumption)⟩ (by decide) (by decide) (by decide) (Int.natCast_nonneg _)).le (by decide)) (kp_law_told _))), rfl, (sub_two rfl rfl)⟩)) (range_getD (stL_len d) nI))) (by rw [enumV_len, List.length_map, stL_len]; decide) (fun q_ q_ => rfl) (Nat.le_refl _) (il hS rfl) (by intro e he; cases e; dsimp only at he; subst he; rfl)) ?_ (by show 2 ≤ _; rw [List.length_append]; lia)
  refine ExK.cons (Es.assignT (Ev.tup (EvL.cons (Ev.bin (Ev.sub (Ev.loc rfl) Ev.int (Itm.lst (v := nI (cl.getD 7 0)) Lsy.lst (by decide) (by decide) (natV_at (m := 7) (by lia)) (fun q_ q_ => rfl))) (Ev.bin Ev.int Ev.int (Bin.pow2 (e := 18) (by decide))) (Bin.fmodE (r := (((cl.getD 7 0 % 262144) : Nat) : Int)) (by decide) (fmodN 262144))) (EvL.cons (Ev.eqv (v1 := .lst ((shelfN d).map nI)) (Ev.bin (Ev.loc rfl) Ev.int (Bin.mulL Lsy.lst (fun z => by have := congrArg List.length z; rw [List.length_map, stL_len] at this; exact absurd this (by decide)) (by decide) (by rw [List.length_map, stL_len]; decide) (by decide))) (shelf_eq d)) EvL.nil))) (AsL.cons (Ast.name (.inr ⟨(.inr (kind_of hS rfl)), rfl⟩)) (AsL.cons (Ast.name (.inr ⟨(il hS rfl), rfl⟩)) AsL.nil)) (sw_of hS (by intro e he; cases e; dsimp only at he; subst he; rfl)) (ss_of hS (by intro e he; cases e; dsimp only at he; subst he; rfl))) ?_ (by show 2 ≤ _; rw [List.length_append]; omega)
  refine ExK.cons (Es.assignT (Ev.tup (EvL.cons Ev.int (EvL.cons (Ev.bin Ev.int Ev.int (Bin.pow2 (e := 18) (by decide))) (EvL.cons (Ev.lstT EvL.nil (Nat.le_of_ble_eq_true rfl) (by rfl)) (EvL.cons (Ev.call (gV (g_law_told _) (kind_of hS rfl)) (EvA.args (EvL.cons (Ev.loc rfl) (EvL.cons (Ev.bin Ev.int Ev.int (Bin.pow2 (e := 18) (by decide))) (EvL.cons (Ev.bin (Ev.sub (Ev.loc rfl) Ev.int (Itm.lst (v := nI (cl.getD 6 0)) Lsy.lst (by decide) (by decide) (natV_at (m := 6) (by lia)) (fun q_ q_ => rfl))) Ev.int (Bin.fdivE (r := (((cl.getD 6 0) / 528 : Nat) : Int)) (by decide) (by decide) (fdivN 528))) (EvL.cons (Ev.bin (Ev.sub (Ev.loc rfl) Ev.int (Itm.lst (v := nI (cl.getD 6 0)) Lsy.lst (by decide) (by decide) (natV_at (m := 6) (by omega)) (fun q_ q_ => rfl))) Ev.int (Bin.fmodE (r := (((cl.getD 6 0) % 2 : Nat) : Int)) (by decide) (fmodN 2))) EvL.nil))))) ((fn_told c1 _ (k := 64) ⟨Int.natCast_nonneg _, by have := Nat.mod_lt (cl.getD 7 0) (show 0 < 262144 by decide); show (((cl.getD 7 0 % 262144) : Nat) : Int) < ((2 ^ 18 : Nat) : Int); omega⟩ (by decide) (by decide) (by decide) (Int.natCast_nonneg _)).le (by decide)) (kp_law_told _)) EvL.nil))))) (AsL.cons (Ast.name (.inr ⟨(il hS rfl), rfl⟩)) (AsL.cons (Ast.name (.inr ⟨(il hS rfl), rfl⟩)) (AsL.cons (Ast.name (.inr ⟨(il hS rfl), rfl⟩)) (AsL.cons (Ast.name (.inr ⟨(il hS rfl), rfl⟩)) AsL.nil)))) (sw_of hS (by intro e he; cases e; dsimp only at he; subst he; rfl)) (ss_of hS (by intro e he; cases e; dsimp only at he; subst he; rfl))) ?_ (by show 2 ≤ _; rw [List.length_append]; omega)
  refine ExK.cons (Es.for (SrcE.of (Ev.call (gB (g_range _) (kind_of hS rfl)) (EvA.args (EvL.cons Ev.int EvL.nil)) Fn.range1 Kp.typ) (Src.rng (a := 0) (b := ((3 : Nat) : Int)) (by decide) (by decide) (by decide) (by decide))) rfl (foEq (H2 := (Hd ++ [HObj.sem pairA]) ++ [.list ((figs (cl.getD 7 0 % 262144) (Dn 0)).map nI)]) (by rw [F.z0]; rfl) (Fo.runsN 3 (by rfl) (fun i => [("size", nI (sz i)), ("place", nI (pl i)), ("figures", .ref (Hd ++ [HObj.sem pairA]).length), ("hue", nI (cl.getD 7 0 % 262144)), ("drawn", nI (cl.getD 7 0 % 262144)), ("shelf", .lst ((shelfN d).map nI)), ("begins", .lst ((stL d).map nI)), ("starts", .lst ((stL d).map nI)), ("sizes", .lst ((szL d).map nI)), ("deep", .lst (d.map nI))]) (fun i => (Hd ++ [HObj.sem pairA]) ++ [.list ((figs (cl.getD 7 0 % 262144) (Dn i)).map nI)]) (subs_cons (by rw [F.z2]; rfl) (subs_cons (by rw [F.z1]; rfl) (subs_cons rfl (subs_cons rfl (subs_cons rfl (subs_cons rfl (subs_cons rfl (subs_cons rfl (subs_cons rfl (subs_cons rfl subs_nil)))))))))) rfl (fun q_ q_ => trivial) (fun i v hv => by
  obtain ⟨hi, rfl⟩ := rng0_at hv
  exact Turn.mk (Ast.name (.inr ⟨(il hS rfl), rfl⟩)) (exEq (by rw [set_last, ← List.map_append, ← figs_more, F.dn i hi]) (Ex.cons (Es.assign (Ev.bin (Ev.bin (Ev.call (gV (g_bisect_right _) (kind_of hS rfl)) (EvA.args (EvL.cons (Ev.loc rfl) (EvL.cons (Ev.bin (Ev.bin (Ev.bin (Ev.loc rfl) (Ev.loc rfl) (Bin.subE (r := (((cl.getD 7 0 % 262144) - pl i : Nat) : Int)) (Int.ofNat_sub (F.le i hi)).symm)) Ev.int (Bin.mulE (r := ((((cl.getD 7 0 % 262144) - pl i) * 64 : Nat) : Int)) (mulOk (by have := Nat.mod_lt (cl.getD 7 0) (show 0 < 262144 by decide); omega)) (Int.natCast_mul _ _).symm)) (Ev.loc rfl) (Bin.fdivP (F.pos i hi).1 (Nat.lt_of_le_of_lt (F.pos i hi).2 (by decide)))) (EvL.cons (Ev.bin Ev.int (Ev.loc rfl) (Bin.mulE (r := ((6 * i : Nat) : Int)) (mulOk (by decide)) (Int.natCast_mul 6 i).symm)) (EvL.cons (Ev.bin (Ev.bin Ev.int (Ev.loc rfl) (Bin.mulE (r := ((6 * i : Nat) : Int)) (mulOk (by decide)) (Int.natCast_mul 6 i).symm)) Ev.int (Bin.addE (r := ((6 * i + 6 : Nat) : Int)) rfl)) EvL.nil))))) ((fn_bisR0 (n := 1) (lo := 6 * i) (hi := 6 * i + 6) (r := 6 * i + kk i + 1) (lt := fun m => decide ((((((cl.getD 7 0 % 262144) - pl i) * 64 / sz i) : Nat) : Int) < (((shelfN d).getD m 0 : Nat) : Int))) c1 _ Lsy.lst (by rw [List.length_map, shelf_len]; decide) (by rw [List.length_map, shelf_len]; lia) (by lia) (by have := F.k6 i hi; lia) (fun m v hv q1 q2 => by
    obtain rfl := natL_at hv
    exact Cmp.ltI) (fun m q1 q2 => by
    have h1 := F.lo i hi (m - 6 * i) (by lia)
    have h2 := F.k6 i hi
    rw [← shelf_at d hi (show m - 6 * i < 6 by lia), show 6 * i + (m - 6 * i) = m from by lia] at h1
    exact decide_eq_false (by lia)) (fun m q1 q2 => by
    have h1 := F.hi i hi (m - 6 * i) (by lia) (by omega)
    rw [← shelf_at d hi (show m - 6 * i < 6 by lia), show 6 * i + (m - 6 * i) = m from by lia] at h1
    exact decide_eq_true (by exact Int.ofNat_lt.mpr (by assumption)))).le (by decide)) (kp_bisect_right _)) (Ev.bin Ev.int (Ev.loc rfl) (Bin.mulE (r := ((6 * i : Nat) : Int)) (mulOk (by decide)) (Int.natCast_mul 6 i).symm)) (Bin.subE (r := ((kk i + 1 : Nat) : Int)) (by lia))) Ev.int (Bin.subE (r := ((kk i : Nat) : Int)) (by lia))) (.inr (kind_of hS rfl)) rfl)
 (Ex.cons (Es.assignS (Ev.tup (EvL.cons (Ev.bin (Ev.loc rfl) (Ev.bin (Ev.bin (Ev.sub (Ev.loc rfl) (Ev.loc rfl) (Itm.lst Lsy.lst (Int.natCast_nonneg _) (by have := F.k6 i hi; omega) (natV_at (by rw [stL_len]; exact F.k6 i hi)) (fun q_ q_ => rfl))) (Ev.loc rfl) (Bin.mulE (r := ((((stL d).getD (kk i) 0) * sz i : Nat) : Int)) (mulOk (by have := st_lt D.arc (F.k6 i hi); omega)) (Int.natCast_mul _ _).symm)) Ev.int (Bin.fdivE (r := ((((stL d).getD (kk i) 0) * sz i / 64 : Nat) : Int)) (by decide) (by decide) (fdivN 64))) (Bin.addE (r := ((pl i + ((stL d).getD (kk i) 0) * sz i / 64 : Nat) : Int)) rfl)) (EvL.cons (Ev.bin (Ev.bin (Ev.loc rfl) (Ev.sub (Ev.loc rfl) (Ev.loc rfl) (Itm.lst Lsy.lst (Int.natCast_nonneg _) (by have := F.k6 i hi; omega) (natV_at (by rw [szL_len, D.arc.len]; exact F.k6 i hi)) (fun q_ q_ => rfl))) (Bin.mulE (r := ((sz i * ((szL d).getD (kk i) 0) : Nat) : Int)) (mulOk (by have := (F.pos i hi).2; lia)) (Int.natCast_mul _ _).symm)) Ev.int (Bin.fdivE (r := ((sz i * ((szL d).getD (kk i) 0) / 64 : Nat) : Int)) (by decide) (by decide) (fdivN 64))) EvL.nil))) rfl (stos_cons (il hS rfl) (stos_cons (il hS rfl) stos_nil)) (sw_of hS (by intro e he; cases e; dsimp only at he; subst he; rfl)) (ss_of hS (by intro e he; cases e; dsimp only at he; subst he; rfl)))
 (Ex.one (Es.aug rfl (by decide) (Ev.compS hS (SrcE.of (Ev.call (gB (g_range _) (kind_of hS rfl)) (EvA.args (EvL.cons (Ev.sub (Ev.loc rfl) (Ev.loc rfl) (Itm.lst Lsy.lst (Int.natCast_nonneg _) (by have := F.k6 i hi; omega) (natV_at (by rw [D.arc.len]; exact F.k6 i hi)) (fun q_ q_ => rfl))) EvL.nil)) Fn.range1 Kp.typ) (Src.rng (a := 0) (b := ((d.getD (kk i) 0 : Nat) : Int)) (by decide) (by decide) (Int.natCast_nonneg _) (by have := D.arc.le _ (F.k6 i hi); omega))) rfl (fun q_ => trivial) (by kernel_rfl) (fun cenv hC13 => (Co.eqr (rs' := ((List.range (d.getD (kk i) 0)).map fun f => bitN (cl.getD 7 0 % 262144) (17 - (Dn i + f))).map nI) (by rw [rng0]; exact Co.map (f := nI) (g := fun f => nI (bitN ((stL d).getD (kk i) 0) (5 - f))) (l := List.range (d.getD (kk i) 0)) (fun f hf => by
   have hf : f < d.getD (kk i) 0 := List.mem_range.mp hf
   have hd5 := D.arc.le _ (F.k6 i hi)
   exact ⟨_, (fun K => (Ast.name (.inl ⟨kind_of hC13 rfl, rfl⟩))), (fun K => (Ev.bin (Ev.bin (Ev.sub (Ev.loc rfl) (Ev.loc rfl) (Itm.lst Lsy.lst (Int.natCast_nonneg _) (by have := F.k6 i hi; omega) (natV_at (by rw [stL_len]; exact F.k6 i hi)) (fun q_ q_ => rfl))) (Ev.bin Ev.int (Ev.bin Ev.int (Ev.loc rfl) (Bin.subE (r := ((5 - f : Nat) : Int)) (by lia))) (Bin.pow2 (by omega))) (Bin.fdivP (Nat.pow_pos (by decide)) (Nat.lt_of_le_of_lt (Nat.pow_le_pow_right (by decide) (Nat.sub_le 5 f)) (by decide)))) Ev.int (Bin.fmodE (r := ((bitN ((stL d).getD (kk i) 0) (5 - f) : Nat) : Int)) (by decide) (fmodN 2)))), rfl, (sub_cons rfl)⟩)) (by rw [List.map_map]; exact List.map_congr_left fun f hf => congrArg nI (F.bit i hi f (List.mem_range.mp hf))))) (by rw [rng0, List.length_map, List.length_range, sizeLine_eq]; have := D.arc.le _ (F.k6 i hi); lia) (fun q_ q_ => rfl) (Nat.le_refl _)) (Aug.addL (l := (figs (cl.getD 7 0 % 262144) (Dn i)).map nI) at_last Lsy.lst (natV_dat _) (by simp only [List.length_map, List.length_range, figs_len, sizeLine_eq]; have := F.small i (by exact Nat.le_of_lt (by assumption)); have := D.arc.le _ (F.k6 i hi); lia)) (il hS rfl)))))) (subs_cons (by rw [F.sn i hi]; rfl) (subs_cons (by rw [F.pn i hi]; rfl) (subs_cons rfl (subs_cons rfl (subs_cons rfl (subs_cons rfl (subs_cons rfl (subs_cons rfl (subs_cons rfl (subs_cons rfl subs_nil))))))))))))) (fun q_ q_ => rfl)) ?_ (by show 2 ≤ _; rw [List.length_append, List.length_append]; exact Nat.le_add_left _ _)
  exact ExK.ret (BoK.next (Ev.cmp (Ev.loc rfl) (Ev.loc rfl) (Cmp.eqNats rfl) rfl) Tru.bool (BoK.next (Ev.cmp (Ev.loc rfl) (Ev.loc rfl) Cmp.eqSame rfl) Tru.bool (BoK.one (EvK'.of (Ev.cmp (Ev.loc rfl) (Ev.compS hS (SrcE.of (Ev.call (gB (g_range _) (kind_of hS rfl)) (EvA.args (EvL.cons (Ev.call (gB (g_len _) (kind_of hS rfl)) (EvA.args (EvL.cons (Ev.loc rfl) EvL.nil)) (Fn.len (.ref at_last) (by rw [List.length_map, figs_len]; have := F.small 3 (by decide); lia)) Kp.blt) EvL.nil)) Fn.range1 Kp.typ) (Src.rng (a := 0) (b := ((((figs (cl.getD 7 0 % 262144) (Dn 3)).map nI).length : Nat) : Int)) (by decide) (by decide) (Int.natCast_nonneg _) (by rw [List.length_map, figs_len]; have := F.small 3 (by decide); omega))) rfl (fun q_ => trivial) (by kernel_rfl) (fun cenv hC14 => (Co.eqr (rs' := (figs (cl.getD 7 0 % 262144) (Dn 3)).map nI) (by rw [rng0, List.length_map, figs_len]; exact Co.map (f := nI) (g := fun k => nI (bitN (cl.getD 7 0 % 262144) (17 - k))) (l := List.range (Dn 3)) (fun k hk => by
   have hk := List.mem_range.mp hk
   have hD3 := F.small 3 (by decide)
   exact ⟨_, (fun K => (Ast.name (.inl ⟨kind_of hC14 rfl, rfl⟩))), (fun K => (Ev.bin (Ev.bin (Ev.loc rfl) (Ev.bin Ev.int (Ev.bin Ev.int (Ev.loc rfl) (Bin.subE (r := ((17 - k : Nat) : Int)) (by lia))) (Bin.pow2 (by omega))) (Bin.fdivP (Nat.pow_pos (by decide)) (Nat.lt_of_le_of_lt (Nat.pow_le_pow_right (by decide) (Nat.sub_le 17 k)) (by decide)))) Ev.int (Bin.fmodE (r := ((bitN (cl.getD 7 0 % 262144) (17 - k) : Nat) : Int)) (by decide) (fmodN 2)))), rfl, (sub_cons rfl)⟩)) (by unfold figs; rw [List.map_map]; rfl))) (by rw [rng0, List.length_map, List.length_range, List.length_map, figs_len, sizeLine_eq]; have := F.small 3 (by decide); lia) (fun q_ q_ => rfl) (Nat.le_refl _)) (Cmp.eqNatsR at_last rfl) rfl) (by show 2 ≤ _; rw [List.length_append, List.length_append]; exact Nat.le_add_left _ _) (by show 2 ≤ _; rw [List.length_append, List.length_append]; exact Nat.le_add_left _ _) (take_law0 (getElem?_append_some (getElem?_append_some hd0)) (getElem?_append_some (getElem?_append_some hd1))) cl_law0)) (by show 2 ≤ _; rw [List.length_append, List.length_append]; exact Nat.le_add_left _ _) (fun q_ => rfl)) (by show 2 ≤ _; rw [List.length_append, List.length_append]; exact Nat.le_add_left _ _) (fun q_ => rfl))
theorem law_all (c1 : C1) {ns : List Int} (hns : ns.length ≤ 100) : FnL c1.ct.raw 9 (.val (.ref 295)) [.lst (ns.map V.int)] law0 := by
 have h8 := cl_len ns
 have hcells := cells_eq ns
 generalize clOf ns = cl at h8 hcells
 have hsg48 : ∀ k ∈ sgF (cl.getD 6 0), k < 48 := fun k => sg_lt
 have hsl := sg_len (cl.getD 6 0)
 have hsn := sg_nodup (cl.getD 6 0)
 generalize hsg : sgF (cl.getD 6 0) = sg at hsg48 hsl hsn
 obtain ⟨Hb, jp, P, hbook, hb2, hb3, hbp, hb0, hb1, b6, P18, Pin⟩ := st_booked c1 hsl h8 hsg48
 have hkm : ∀ k, k ∈ ksF sg ↔ k ∈ sg := fun k => ks_mem hsg48
 have hkl := ks_len hsg48 hsn
 have hks := ks_sorted sg
 generalize hkk : ksF sg = ks at hkm hkl hks
 have D := deal_of (P := P) (ks := ks) (hkl.trans hsl) (fun k m => hsg48 k ((hkm k).mp m)) hks P18 (fun q m => ⟨hsg48 _ (Pin q m).1, (hkm _).mpr (Pin q m).1, (Pin q m).2⟩)
 generalize gwF 5 (ks.map (wgt P)) = d at D
 generalize trR (rowN (rwF P ks) 5) 0 = T at D
 obtain ⟨Hw, jw, hw, hjw, we, wl⟩ := st_weights c1 D hb0 hb2 hb3 hbp
 obtain ⟨Ht, j, ia, htree, htj, hti, hia, hjj, te, tl⟩ := st_tree c1 Hw
 have z0 : (Ht ++ [HObj.sem pairA])[0]? = law0[0]? := getElem?_append_some (te 0 _ (we 0 _ hb0))
 have z1 : (Ht ++ [HObj.sem pairA])[1]? = law0[1]? := getElem?_append_some (te 1 _ (we 1 _ hb1))
 obtain ⟨Hg, hgrown, gj, gi, ge, gl⟩ := st_grown c1 D z1 (getElem?_append_some htj) (getElem?_append_some hti)
 obtain ⟨Hd, jd, hdep, hdd, de, dl⟩ := st_depths c1 D gj gi
 obtain ⟨kk, Dn, pl, sz, F⟩ := three_ok D.arc (x := cl.getD 7 0 % 262144) (Nat.mod_lt _ (by decide))
 have gl' : Ht.length + 1 ≤ Hg.length := by
  rw [List.length_append] at gl; exact gl
 have ljw : jw < Hw.length := (List.getElem?_eq_some_iff.mp hjw).1
 exact law_core c1 hns h8 hcells hsg.symm hsg48 hkk.symm D b6 hbook hw (by omega) hjw htree (by omega) (te jw _ hjw) hgrown (by omega) hdep (by omega) (de _ _ gj) (de _ _ gi) hdd D.len (de _ _ (ge jw _ (by omega) (getElem?_append_some (te jw _ hjw)))) (de 0 _ (ge 0 _ (by omega) z0)) (de 1 _ (ge 1 _ (by omega) z1)) F
set_option tactic.hygienic true in
theorem ns_none_of {K : Frag} {h : Heap} {a : Addr} {mc : Str → Option Value} {x : Str} (X : K.In h) (G : h.Ns a mc) (e : nsIn K a x = some none) : mc x = none := by
 obtain ⟨o, es, ep, ho, hd, _, hf⟩ := G
 unfold nsIn at e
 split at e
 ·rename_i c d es' n' sl q
  have := X _ _ q
  rw [ho] at this; cases this
  cases hd
  rw [← hf x]
  split at e
  ·cases e
  ·rename_i hn
   rw [Array.find?_toList] at hn
   show (es.find? _).map _ = none
   rw [hn]; rfl
 ·cases e
theorem no_265 (P : Params) : (hd02.heap_39 P).lookup 265 = none := by kernel_rfl
theorem no_270 (P : Params) : (hd02.heap_39 P).lookup 270 = none := by kernel_rfl
theorem booked_none (P : Params) : nsIn (hd02.heap_39 P) cStatics sharingNotToldKey = some none := by k_is
theorem law_ref (P : Params) : nsIn (hd02.heap_39 P) mainGlobals (Str.ofString "law") = some (some (.ref 295)) := by k_is
theorem ns_hide {h : Heap} {as : List Addr} {a : Addr} {m : Str → Option Value} (n : a ∉ as) (x : h.Ns a m) : (hideAll h as).Ns a m := by
 obtain ⟨o, es, ep, ho, r⟩ := x
 exact ⟨o, es, ep, hideAll_get _ ho n, r⟩
theorem well_nil {P : Params} {h : Heap} {vs : List Value} (r : WellAll P h vs []) : vs = [] := by cases r; rfl
theorem well_int {P : Params} {h : Heap} {vs : List Value} {i : Int} {l : List WData} (r : WellAll P h vs (WData.int i :: l)) : ∃ t ys, vs = .int i t :: ys ∧ WellAll P h ys l := by
 cases r with
 | cons a r => cases a; exact ⟨_, _, rfl, r⟩
theorem well_ints {P : Params} {w : Wd} {ns : List Int} : ∀ {vs : List Value}, WellAll P w.h vs (ofPys (ns.map PyData.int)) → VRels w (ns.map V.int) vs := by
 induction ns with
 | nil => intro vs h; obtain rfl := well_nil h; exact .nil
 | cons i ns ih => intro vs h; obtain ⟨t, ys, rfl, r⟩ := well_int h; exact .cons (.int _ _) (ih r)
theorem law_true {w : World} {s₁ : Shared} {mg mb : Str → Option Value} {a : Addr} {vs : List Value} {m : Nat} {ns : List Int} {Q E : Value → Shared → Prop} (X : (hd02.heap_39 w.params).In s₁.heap) (g : s₁.heap.Ns mainGlobals mg) (b : s₁.heap.Ns builtinsNs mb) (lim : s₁.heap.NoLimit)
  (blt : ∀ x : Str, x ≠ "__name__" → mb x = bootBuiltins x) (bm : BMain mg s₁.heap) (t3 : s₁.heap.get? 265 = some (tabObj #[])) (t1 : s₁.heap.get? 270 = some (tabObj #[])) (hl : s₁.heap.get? a = some (lstObj vs m)) (hv : WellAll w.params s₁.heap vs (ofPys (ns.map PyData.int))) (hns : ns.length ≤ 100)
  (K : ∀ s', OldK s₁.heap s'.heap → s'.os = s₁.os → s'.gens = s₁.gens → Q (.bool true) s') : wpAny (model PySem.Challenge.pw_ta0122_02 w) callerA (call (.ref 295) [.ref a]) Q E s₁ := by
 have n3 : mainGlobals ∉ [265, 270] := by decide
 have n0 : builtinsNs ∉ [265, 270] := by decide
 have n2 : cStatics ∉ [265, 270] := by decide
 have Xh : (hd02.heap_39 w.params).In (hideAll s₁.heap [265, 270]) := fun q o e => hideAll_get _ (X q o e) fun mm => by
  simp only [List.mem_cons, List.not_mem_nil, or_false] at mm
  rcases mm with rfl | rfl
  ·rw [no_265] at e; cases e
  ·rw [no_270] at e; cases e
 obtain ⟨mc, hmc, hlim⟩ := lim
 have nb : NoneBooked (hideAll s₁.heap [265, 270]) := ⟨mc, ns_hide n2 hmc, ns_none_of X hmc (booked_none _)⟩
 have bm' : BMain mg (hideAll s₁.heap [265, 270]) := by
  obtain ⟨bmA, ob, h1, h2, h3, h4, h5, h6⟩ := bm
  refine ⟨bmA, ob, h1, h2, hideAll_get _ h3 fun mm => ?_, h4, h5, h6⟩
  simp only [List.mem_cons, List.not_mem_nil, or_false] at mm
  rcases mm with rfl | rfl
  ·rw [t3] at h3; cases h3; cases h4
  ·rw [t1] at h3; cases h3; cases h4
 let c : C1 := { w := w, mg := mg, mb := mb, h₀ := hideAll s₁.heap [265, 270], X := Xh, g := ns_hide n3 g, b := ns_hide n0 b, nb := nb, lim := ⟨mc, ns_hide n2 hmc, hlim⟩, blt := blt, bm := bm' }
 have hlaw := law_all c hns
 have tabs : ∀ (i : Nat) (P : Addr) (nm : Str) (o : Obj), ([265, 270] : List Addr)[i]? = some P → o = tabObj #[] → (tabA i P nm).P ⟨[265, 270], [], s₁⟩ o := fun i P nm o hi ho => ⟨hi, #[], ho, trivial, fun pos v z => by cases z⟩
 have B : BSt c.ct.raw ⟨[265, 270], [], s₁⟩ law0 := by
  refine ⟨fun q o e => of_hideAll _ e, fun q mm => ⟨hideAll_none _ mm, fun z => ?_⟩, (by decide : ([265, 270] : List Addr).Nodup), rfl, fun i q o e1 e2 => ?_, (fun q_ mm => nomatch mm), (fun h => h.elim), fun i P e => ?_⟩
  ·rw [z] at mm; exact absurd mm (by decide : ¬ sysModules ∈ ([265, 270] : List Addr))
  ·match i, e1, e2 with
   | 0, e1, e2 => cases e1; cases e2; exact .sem t3 (tabs 0 265 _ _ rfl rfl)
   | 1, e1, e2 => cases e1; cases e2; exact .sem t1 (tabs 1 270 _ _ rfl rfl)
  ·match i, e with
   | 0, e => cases e; show 1 ≤ 2; decide
   | 1, e => cases e; show 2 ≤ 2; decide
 have ha : a ∉ ([265, 270] : List Addr) := fun mm => by
  simp only [List.mem_cons, List.not_mem_nil, or_false] at mm
  rcases mm with rfl | rfl
  ·rw [t3] at hl; cases hl
  ·rw [t1] at hl; cases hl
 refine wpAny_call (hlaw callerA ⟨[265, 270], [], s₁⟩ _ (.ref 295) [.ref a] ⟨rfl, by decide, by decide⟩ rfl B (.val _) (.cons (.lst hl ha (well_ints hv)) .nil) fun w' S B' => ?_)
 refine K w'.s ⟨fun d o e => ?_, fun d o e => S.live d o e fun z => nomatch z⟩ S.os S.gens
 have er : w'.ρ = [265, 270] := by
  obtain ⟨δ, h1, _⟩ := S.rho
  have hlen := B'.len
  rw [h1, List.length_append] at hlen
  have hlen' : 2 + δ.length = 2 := hlen
  have : δ = [] := List.eq_nil_of_length_eq_zero (by lia)
  rw [h1, this]; rfl
 have tabE : ∀ (i : Nat) (P : Addr) (nm : Str), w'.ρ[i]? = some P → law0[i]? = some (.sem (tabA i P nm)) → ∃ ps, w'.s.heap.get? P = some (tabObj ps) := fun i P nm h1 h2 => by
  cases B'.obj i P _ h1 h2 with
  | sem e p =>
   obtain ⟨_, ps, rfl, _⟩ := p
   exact ⟨ps, e⟩
 by_cases mm : d ∈ ([265, 270] : List Addr)
 ·simp only [List.mem_cons, List.not_mem_nil, or_false] at mm
  rcases mm with rfl | rfl
  ·obtain ⟨ps, hps⟩ := tabE 0 265 _ (by rw [er]; rfl) rfl
   rw [t3] at e; cases e
   obtain ⟨o, us, fl, tf, fg, tg, inF, tx, tt, k1, k2, k3, k4, _⟩ := hd_weights c
   exact .inr (.inl ⟨⟨267, o, us, of_hideAll _ k1, k2, k3, k4⟩, rfl, #[], ps, rfl, by rw [hps]; simp [tabObj]⟩)
  ·obtain ⟨ps, hps⟩ := tabE 1 270 _ (by rw [er]; rfl) rfl
   rw [t1] at e; cases e
   obtain ⟨o, us, fl, tf, fg, tg, inF, tx, tt, k1, k2, k3, k4, _⟩ := hd_grown c
   exact .inr (.inl ⟨⟨272, o, us, of_hideAll _ k1, k2, k3, k4⟩, rfl, #[], ps, rfl, by rw [hps]; simp [tabObj]⟩)
 ·exact .inl (S.keep d o e mm fun z => nomatch z)
end Mine
set_option maxRecDepth 100000 in
set_option maxHeartbeats 8000000 in
theorem PySem.Challenge.cw_ta0122_02_holds : PySem.Challenge.rw_ta0122_02.Holds := by
  refine Mine.hd02 ?_
  intro w s₀ s₁ mg mb G Y fa o pm cd doc dV kV ho hd hcd hD hmg hg args vals as hpre hlay hrd hwl hlo
  have X := km_in_of Y
  have T := km_tabs_of Y
  have TT := G.T
  have hfa : fa = 295 := by
    have h := mg_of X TT.g (Mine.law_ref w.params)
    have h2 : some (Value.ref fa) = some (.ref 295) := hmg.symm.trans h
    injection h2 with h3; injection h3
  subst hfa
  clear hcd hD hd ho hmg
  wrow_args hpre hlay hrd hwl hlo
  rename Well _ _ _ _ => w1
  rename List Int => ns
  rename (¬ _ < (List.length _ : Int)) => hlen
  cases w1 with | list hl hv =>
  refine Mine.law_true (ns := ns) X TT.g TT.b TT.nolimit TT.builtins ?_ (T 265 (by decide)) (T 270 (by decide)) hl hv ?_ fun s' h1 h2 h3 => ?_
  · obtain ⟨bm, ob, h1, h2, h3, h4, h5, h6⟩ := TT.bmain
    exact ⟨bm, ob, h1, h2, h3, h4, h5, h6⟩
  · omega
  · refine ⟨.inl ⟨_, .bool true, [], rfl, raisesW_false (by wrow_none_raised), .bool _, by wrow_post, fun q_ => ⟨List.nodup_nil, (fun q_ m => nomatch m)⟩⟩, h1, h2, .of_eq (h3.trans hg)⟩
