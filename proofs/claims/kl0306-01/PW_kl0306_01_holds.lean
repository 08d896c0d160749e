import PyProof.Rows.All
import Wide.All
import OpenK.AllK
import Wide.FinOn
import PyProof.IsiH_list
import PyProof.AttrMiss
import KE.KFromBytes
import KE.KRevIter
import KE.KDictIter
import PyProof.AttrMissHeap
import Lean
import PySem.Challenge.RW_kl0306_01
open PySem PySem.W PyProof.Rows
set_option Elab.async false
set_option maxRecDepth 100000
set_option maxHeartbeats 8000000
set_option rowWalk.seconds 0
set_option pp.deepTerms false
set_option pp.deepTerms.threshold 3
set_option pp.maxSteps 300
set_option linter.unusedVariables false
set_option linter.unusedSimpArgs false
set_option compiler.extract_closed false
set_option bootstrap.genMatcherCode false
set_option genSizeOf false
set_option genInjectivity false
set_option genCtorIdx false
def Mine.Internal.dq := @PySem.W.namesOk
theorem Mine.Internal.dq_eq : Mine.Internal.dq = @PySem.W.namesOk := rfl
name_quick tw861502493610598483 for PySem.W.namesOk by Mine.Internal.dq_eq
name_quick tw1342123614928995077 for PySem.W.namesOk by Mine.Internal.dq_eq
name_quick tw10648816792666195974 for PySem.W.namesOk by Mine.Internal.dq_eq
name_quick tw7963687985677495567 for PySem.W.namesOk by Mine.Internal.dq_eq
name_quick tw3032623474359738624 for PySem.W.namesOk by Mine.Internal.dq_eq
name_quick tw7774113678449685934 for PySem.W.namesOk by Mine.Internal.dq_eq
name_quick tw11592902740619675445 for PySem.W.namesOk by Mine.Internal.dq_eq
name_quick tw16008359073273489704 for PySem.W.namesOk by Mine.Internal.dq_eq
name_quick tw12132712098797836567 for PySem.W.namesOk by Mine.Internal.dq_eq
name_quick tw4976532014690838185 for PySem.W.namesOk by Mine.Internal.dq_eq
name_quick tw17315057650846758953 for PySem.W.namesOk by Mine.Internal.dq_eq
name_quick tw1831729633985795129 for PySem.W.namesOk by Mine.Internal.dq_eq
name_quick tw16248296213531012650 for PySem.W.namesOk by Mine.Internal.dq_eq
name_quick tw4804111812005502284 for PySem.W.namesOk by Mine.Internal.dq_eq
name_quick tw4683681711962371626 for PySem.W.namesOk by Mine.Internal.dq_eq
name_quick tw13053770412826190925 for PySem.W.namesOk by Mine.Internal.dq_eq
name_quick tw7363655315013122544 for PySem.W.namesOk by Mine.Internal.dq_eq
name_quick tw13968170938045774931 for PySem.W.namesOk by Mine.Internal.dq_eq
name_quick tw1956775160557780875 for PySem.W.namesOk by Mine.Internal.dq_eq
name_quick tw3953844824629472508 for PySem.W.namesOk by Mine.Internal.dq_eq
name_quick tw4881592894971031630 for PySem.W.namesOk by Mine.Internal.dq_eq
name_quick tw4321966507151631593 for PySem.W.namesOk by Mine.Internal.dq_eq
name_quick tw209982475168477708 for PySem.W.namesOk by Mine.Internal.dq_eq
name_quick tw13421457143807847188 for PySem.W.namesOk by Mine.Internal.dq_eq
name_quick tw10876078143196172821 for PySem.W.namesOk by Mine.Internal.dq_eq
name_quick tw1972164579936704799 for PySem.W.namesOk by Mine.Internal.dq_eq
name_quick tw2187251505897268136 for PySem.W.namesOk by Mine.Internal.dq_eq
name_quick tw5994696166404524948 for PySem.W.namesOk by Mine.Internal.dq_eq
name_quick tw4971374062829452455 for PySem.W.namesOk by Mine.Internal.dq_eq
name_quick tw9296065175928017463 for PySem.W.namesOk by Mine.Internal.dq_eq
name_quick tw1599053048872161195 for PySem.W.namesOk by Mine.Internal.dq_eq
name_quick tw3671519592330383864 for PySem.W.namesOk by Mine.Internal.dq_eq
name_quick tw977512076041815475 for PySem.W.namesOk by Mine.Internal.dq_eq
name_quick tw18328257000508772394 for PySem.W.namesOk by Mine.Internal.dq_eq
name_quick tw4003800409337655787 for PySem.W.namesOk by Mine.Internal.dq_eq
name_quick tw11662115353561507501 for PySem.W.namesOk by Mine.Internal.dq_eq
name_quick tw7046044490832178742 for PySem.W.namesOk by Mine.Internal.dq_eq
name_quick tw4323258101793500111 for PySem.W.namesOk by Mine.Internal.dq_eq
name_quick tw11373181179767321252 for PySem.W.namesOk by Mine.Internal.dq_eq
name_quick tw3721919958574915784 for PySem.W.namesOk by Mine.Internal.dq_eq
name_quick tw16654469307462801742 for PySem.W.namesOk by Mine.Internal.dq_eq
name_quick tw4859391219904099992 for PySem.W.namesOk by Mine.Internal.dq_eq
name_quick tw16636501806038632012 for PySem.W.namesOk by Mine.Internal.dq_eq
name_quick tw15401437161963490237 for PySem.W.namesOk by Mine.Internal.dq_eq
name_quick tw4096438862311573950 for PySem.W.namesOk by Mine.Internal.dq_eq
name_quick tw18157406047293677543 for PySem.W.namesOk by Mine.Internal.dq_eq
name_quick tw8535803893964050539 for PySem.W.namesOk by Mine.Internal.dq_eq
name_quick tw17435391645217708394 for PySem.W.namesOk by Mine.Internal.dq_eq
name_quick tw14172470266813156586 for PySem.W.namesOk by Mine.Internal.dq_eq
name_quick tw14404928986312190071 for PySem.W.namesOk by Mine.Internal.dq_eq
name_quick tw8912161614967838395 for PySem.W.namesOk by Mine.Internal.dq_eq
name_quick tw3215387988796971590 for PySem.W.namesOk by Mine.Internal.dq_eq
name_quick tw772564365185477556 for PySem.W.namesOk by Mine.Internal.dq_eq
name_quick tw6858818405166986180 for PySem.W.namesOk by Mine.Internal.dq_eq
name_quick tw12147665669636231765 for PySem.W.namesOk by Mine.Internal.dq_eq
name_quick tw6420159726195949164 for PySem.W.namesOk by Mine.Internal.dq_eq
name_quick tw13674586047789940208 for PySem.W.namesOk by Mine.Internal.dq_eq
name_quick tw2144661209622563809 for PySem.W.namesOk by Mine.Internal.dq_eq
name_quick tw16380965088707415623 for PySem.W.namesOk by Mine.Internal.dq_eq
name_quick tw1922157984580058403 for PySem.W.namesOk by Mine.Internal.dq_eq
name_quick tw9402243437249704421 for PySem.W.namesOk by Mine.Internal.dq_eq
name_quick tw16108870410212019532 for PySem.W.namesOk by Mine.Internal.dq_eq
name_quick tw12954591660760965231 for PySem.W.namesOk by Mine.Internal.dq_eq
name_quick tw4548300405975405348 for PySem.W.namesOk by Mine.Internal.dq_eq
name_quick tw17214186515701724070 for PySem.W.namesOk by Mine.Internal.dq_eq
name_quick tw8565224436197482051 for PySem.W.namesOk by Mine.Internal.dq_eq
name_quick tw8431482922422412695 for PySem.W.namesOk by Mine.Internal.dq_eq
name_quick tw258204147387103276 for PySem.W.namesOk by Mine.Internal.dq_eq
name_quick tw8899516883271353254 for PySem.W.namesOk by Mine.Internal.dq_eq
name_quick tw14782755387869428366 for PySem.W.namesOk by Mine.Internal.dq_eq
name_quick tw10212804917625248896 for PySem.W.namesOk by Mine.Internal.dq_eq
name_quick tw3382625519597670723 for PySem.W.namesOk by Mine.Internal.dq_eq
name_quick tw14611616552423853409 for PySem.W.namesOk by Mine.Internal.dq_eq
name_quick tw15685335758407661847 for PySem.W.namesOk by Mine.Internal.dq_eq
name_quick tw13861969467909019144 for PySem.W.namesOk by Mine.Internal.dq_eq
name_quick tw457283913326318344 for PySem.W.namesOk by Mine.Internal.dq_eq
name_quick tw3235425350174046738 for PySem.W.namesOk by Mine.Internal.dq_eq
name_quick tw12099505692703838030 for PySem.W.namesOk by Mine.Internal.dq_eq
name_quick tw9527419180321252691 for PySem.W.namesOk by Mine.Internal.dq_eq
name_quick tw2595585439558603231 for PySem.W.namesOk by Mine.Internal.dq_eq
name_quick tw615563214671542189 for PySem.W.namesOk by Mine.Internal.dq_eq
name_quick tw4493901809537577575 for PySem.W.namesOk by Mine.Internal.dq_eq
name_quick tw2789304352393801511 for PySem.W.namesOk by Mine.Internal.dq_eq
name_quick tw4148533619186036948 for PySem.W.namesOk by Mine.Internal.dq_eq
name_quick tw16682895059504647277 for PySem.W.namesOk by Mine.Internal.dq_eq
name_quick tw17678831435119133177 for PySem.W.namesOk by Mine.Internal.dq_eq
name_quick tw8060666987683057360 for PySem.W.namesOk by Mine.Internal.dq_eq
name_quick tw18183970276198133131 for PySem.W.namesOk by Mine.Internal.dq_eq
name_quick tw11564986514327137767 for PySem.W.namesOk by Mine.Internal.dq_eq
name_quick tw17339309145561079191 for PySem.W.namesOk by Mine.Internal.dq_eq
name_quick tw17351735930882485243 for PySem.W.namesOk by Mine.Internal.dq_eq
name_quick tw6548459193220583526 for PySem.W.namesOk by Mine.Internal.dq_eq
name_quick tw16409965706819354750 for PySem.W.namesOk by Mine.Internal.dq_eq
name_quick tw14537775516033599862 for PySem.W.namesOk by Mine.Internal.dq_eq
name_quick tw12670982853097334264 for PySem.W.namesOk by Mine.Internal.dq_eq
name_quick tw2646887283097553488 for PySem.W.namesOk by Mine.Internal.dq_eq
name_quick tw10474955418446329604 for PySem.W.namesOk by Mine.Internal.dq_eq
name_quick tw7240865930546916724 for PySem.W.namesOk by Mine.Internal.dq_eq
name_quick tw10792498714594961201 for PySem.W.namesOk by Mine.Internal.dq_eq
name_quick tw6702445572142316249 for PySem.W.namesOk by Mine.Internal.dq_eq
name_quick tw15042883488752021643 for PySem.W.namesOk by Mine.Internal.dq_eq
name_quick tw6798380500665416597 for PySem.W.namesOk by Mine.Internal.dq_eq
name_quick tw14925215786284635946 for PySem.W.namesOk by Mine.Internal.dq_eq
name_quick tw9904465844462339222 for PySem.W.namesOk by Mine.Internal.dq_eq
name_quick tw8549567097830819671 for PySem.W.namesOk by Mine.Internal.dq_eq
name_quick tw9860861378791804195 for PySem.W.namesOk by Mine.Internal.dq_eq
name_quick tw9796564346219866840 for PySem.W.namesOk by Mine.Internal.dq_eq
name_quick tw6782663255696616371 for PySem.W.namesOk by Mine.Internal.dq_eq
name_quick tw6170744672141170255 for PySem.W.namesOk by Mine.Internal.dq_eq
name_quick tw11401859456886640639 for PySem.W.namesOk by Mine.Internal.dq_eq
name_quick tw5002640475654186023 for PySem.W.namesOk by Mine.Internal.dq_eq
name_quick tw9116068151291705539 for PySem.W.namesOk by Mine.Internal.dq_eq
name_quick tw13622603851894308203 for PySem.W.namesOk by Mine.Internal.dq_eq
name_quick tw4483904966330829159 for PySem.W.namesOk by Mine.Internal.dq_eq
name_quick tw4096221787609464999 for PySem.W.namesOk by Mine.Internal.dq_eq
name_quick tw5684269996591040895 for PySem.W.namesOk by Mine.Internal.dq_eq
name_quick tw15127105006835628225 for PySem.W.namesOk by Mine.Internal.dq_eq
name_quick tw3300454383303005205 for PySem.W.namesOk by Mine.Internal.dq_eq
name_quick tw17843931727820963302 for PySem.W.namesOk by Mine.Internal.dq_eq
name_quick tw15621415185263527259 for PySem.W.namesOk by Mine.Internal.dq_eq
name_quick tw15438627641174518403 for PySem.W.namesOk by Mine.Internal.dq_eq
name_quick tw14993981098963755598 for PySem.W.namesOk by Mine.Internal.dq_eq
name_quick tw9630203353718772412 for PySem.W.namesOk by Mine.Internal.dq_eq
name_quick tw11513857634932158529 for PySem.W.namesOk by Mine.Internal.dq_eq
name_quick tw17062427158221528723 for PySem.W.namesOk by Mine.Internal.dq_eq
name_quick tw4075453323654395381 for PySem.W.namesOk by Mine.Internal.dq_eq
name_quick tw5444512763150141072 for PySem.W.namesOk by Mine.Internal.dq_eq
name_quick tw12431713363859531893 for PySem.W.namesOk by Mine.Internal.dq_eq
name_quick tw5832305185047221409 for PySem.W.namesOk by Mine.Internal.dq_eq
name_quick tw12459912946257978736 for PySem.W.namesOk by Mine.Internal.dq_eq
name_quick tw17318462890700432884 for PySem.W.namesOk by Mine.Internal.dq_eq
name_quick tw10698057553749749337 for PySem.W.namesOk by Mine.Internal.dq_eq
name_quick tw1937721966566455358 for PySem.W.namesOk by Mine.Internal.dq_eq
name_quick tw16670775579421159206 for PySem.W.namesOk by Mine.Internal.dq_eq
name_quick tw16721508838639397229 for PySem.W.namesOk by Mine.Internal.dq_eq
name_quick tw5449601097390414333 for PySem.W.namesOk by Mine.Internal.dq_eq
name_quick tw15324658498815530130 for PySem.W.namesOk by Mine.Internal.dq_eq
name_quick tw8157277791214410489 for PySem.W.namesOk by Mine.Internal.dq_eq
name_quick tw3270257207059953099 for PySem.W.namesOk by Mine.Internal.dq_eq
name_quick tw16919654943277366748 for PySem.W.namesOk by Mine.Internal.dq_eq
name_quick tw3099597729799864441 for PySem.W.namesOk by Mine.Internal.dq_eq
name_quick tw4953865588907285216 for PySem.W.namesOk by Mine.Internal.dq_eq
name_quick tw2261719852989239553 for PySem.W.namesOk by Mine.Internal.dq_eq
name_quick tw4171853373547519906 for PySem.W.namesOk by Mine.Internal.dq_eq
name_quick tw16756451883985382160 for PySem.W.namesOk by Mine.Internal.dq_eq
name_quick tw14904681115217272601 for PySem.W.namesOk by Mine.Internal.dq_eq
name_quick tw9461873434466728008 for PySem.W.namesOk by Mine.Internal.dq_eq
name_quick tw5072417060200589145 for PySem.W.namesOk by Mine.Internal.dq_eq
name_quick tw9387514328989991554 for PySem.W.namesOk by Mine.Internal.dq_eq
name_quick tw5217270863462422736 for PySem.W.namesOk by Mine.Internal.dq_eq
name_quick tw2403389108928632939 for PySem.W.namesOk by Mine.Internal.dq_eq
name_quick tw13946496683202179788 for PySem.W.namesOk by Mine.Internal.dq_eq
name_quick tw9757595895972200118 for PySem.W.namesOk by Mine.Internal.dq_eq
name_quick tw12269216009862288129 for PySem.W.namesOk by Mine.Internal.dq_eq
name_quick tw547895379624588593 for PySem.W.namesOk by Mine.Internal.dq_eq
name_quick tw9536688357841153863 for PySem.W.namesOk by Mine.Internal.dq_eq
name_quick tw17659185236578331656 for PySem.W.namesOk by Mine.Internal.dq_eq
name_quick tw443766864951011646 for PySem.W.namesOk by Mine.Internal.dq_eq
name_quick tw896878414759379649 for PySem.W.namesOk by Mine.Internal.dq_eq
name_quick tw8002303944043701648 for PySem.W.namesOk by Mine.Internal.dq_eq
name_quick tw4309217394794523951 for PySem.W.namesOk by Mine.Internal.dq_eq
name_quick tw13855379610559885079 for PySem.W.namesOk by Mine.Internal.dq_eq
name_quick tw6128106870883400570 for PySem.W.namesOk by Mine.Internal.dq_eq
name_quick tw7374399212775623666 for PySem.W.namesOk by Mine.Internal.dq_eq
name_quick tw8047209995159408440 for PySem.W.namesOk by Mine.Internal.dq_eq
name_quick tw8865387616306378214 for PySem.W.namesOk by Mine.Internal.dq_eq
name_quick tw6030501089693204938 for PySem.W.namesOk by Mine.Internal.dq_eq
name_quick tw4562827626845409882 for PySem.W.namesOk by Mine.Internal.dq_eq
name_quick tw6522051377940421278 for PySem.W.namesOk by Mine.Internal.dq_eq
name_quick tw3308634892276815127 for PySem.W.namesOk by Mine.Internal.dq_eq
name_quick tw16822532161544500889 for PySem.W.namesOk by Mine.Internal.dq_eq
name_quick tw13462424878891718212 for PySem.W.namesOk by Mine.Internal.dq_eq
name_quick tw6822071536725586909 for PySem.W.namesOk by Mine.Internal.dq_eq
name_quick tw1915925776726481438 for PySem.W.namesOk by Mine.Internal.dq_eq
name_quick tw3641951560692057861 for PySem.W.namesOk by Mine.Internal.dq_eq
name_quick tw14689541978594310382 for PySem.W.namesOk by Mine.Internal.dq_eq
name_quick tw7424060955962978353 for PySem.W.namesOk by Mine.Internal.dq_eq
name_quick tw8297923619242306668 for PySem.W.namesOk by Mine.Internal.dq_eq
name_quick tw5101696844757716304 for PySem.W.namesOk by Mine.Internal.dq_eq
name_quick tw17963105932079019327 for PySem.W.namesOk by Mine.Internal.dq_eq
name_quick tw16615150188913437886 for PySem.W.namesOk by Mine.Internal.dq_eq
name_quick tw17338325484393633139 for PySem.W.namesOk by Mine.Internal.dq_eq
name_quick tw2931988195819169919 for PySem.W.namesOk by Mine.Internal.dq_eq
name_quick tw9977182230042388008 for PySem.W.namesOk by Mine.Internal.dq_eq
name_quick tw14827714588952709054 for PySem.W.namesOk by Mine.Internal.dq_eq
name_quick tw12917704675397863716 for PySem.W.namesOk by Mine.Internal.dq_eq
name_quick tw11823594873375168262 for PySem.W.namesOk by Mine.Internal.dq_eq
name_quick tw6229817132586351632 for PySem.W.namesOk by Mine.Internal.dq_eq
name_quick tw14564479935002850509 for PySem.W.namesOk by Mine.Internal.dq_eq
name_quick tw1864683662541468164 for PySem.W.namesOk by Mine.Internal.dq_eq
name_quick tw17170472223608059050 for PySem.W.namesOk by Mine.Internal.dq_eq
name_quick tw18367749455379333440 for PySem.W.namesOk by Mine.Internal.dq_eq
name_quick tw10341888390210383824 for PySem.W.namesOk by Mine.Internal.dq_eq
name_quick tw1532491051758110099 for PySem.W.namesOk by Mine.Internal.dq_eq
name_quick tw9456574344343218679 for PySem.W.namesOk by Mine.Internal.dq_eq
name_quick tw2399617604181995578 for PySem.W.namesOk by Mine.Internal.dq_eq
name_quick tw12408111787983249662 for PySem.W.namesOk by Mine.Internal.dq_eq
name_quick tw8374155422468719031 for PySem.W.namesOk by Mine.Internal.dq_eq
name_quick tw6557801498797044033 for PySem.W.namesOk by Mine.Internal.dq_eq
name_quick tw15577281813014381367 for PySem.W.namesOk by Mine.Internal.dq_eq
name_quick tw3985964047577975286 for PySem.W.namesOk by Mine.Internal.dq_eq
name_quick tw12768989823518198380 for PySem.W.namesOk by Mine.Internal.dq_eq
name_quick tw2400638427578300857 for PySem.W.namesOk by Mine.Internal.dq_eq
name_quick tw2228412568605170491 for PySem.W.namesOk by Mine.Internal.dq_eq
name_quick tw8737599933303070863 for PySem.W.namesOk by Mine.Internal.dq_eq
name_quick tw14424681132571578402 for PySem.W.namesOk by Mine.Internal.dq_eq
name_quick tw4015202173357781934 for PySem.W.namesOk by Mine.Internal.dq_eq
name_quick tw9950792792127014553 for PySem.W.namesOk by Mine.Internal.dq_eq
name_quick tw15752536640612570366 for PySem.W.namesOk by Mine.Internal.dq_eq
name_quick tw15433366417846715934 for PySem.W.namesOk by Mine.Internal.dq_eq
name_quick tw10842938092177581297 for PySem.W.namesOk by Mine.Internal.dq_eq
name_quick tw9947508896943372755 for PySem.W.namesOk by Mine.Internal.dq_eq
name_quick tw2295934692909999376 for PySem.W.namesOk by Mine.Internal.dq_eq
name_quick tw9972681490609642005 for PySem.W.namesOk by Mine.Internal.dq_eq
name_quick tw8480184845173159842 for PySem.W.namesOk by Mine.Internal.dq_eq
name_quick tw16140922888777852060 for PySem.W.namesOk by Mine.Internal.dq_eq
name_quick tw11408881796089955267 for PySem.W.namesOk by Mine.Internal.dq_eq
name_quick tw1205274952441263945 for PySem.W.namesOk by Mine.Internal.dq_eq
name_quick tw4884199854448574 for PySem.W.namesOk by Mine.Internal.dq_eq
name_quick tw3042748168174471775 for PySem.W.namesOk by Mine.Internal.dq_eq
name_quick tw2353497105660221152 for PySem.W.namesOk by Mine.Internal.dq_eq
name_quick tw16226643914720891334 for PySem.W.namesOk by Mine.Internal.dq_eq
name_quick tw15166322114958858414 for PySem.W.namesOk by Mine.Internal.dq_eq
name_quick tw10294118229990073760 for PySem.W.namesOk by Mine.Internal.dq_eq
name_quick tw8739830900816887780 for PySem.W.namesOk by Mine.Internal.dq_eq
name_quick tw11738243743197964597 for PySem.W.namesOk by Mine.Internal.dq_eq
name_quick tw14391293386007564604 for PySem.W.namesOk by Mine.Internal.dq_eq
name_quick tw13913613514976480042 for PySem.W.namesOk by Mine.Internal.dq_eq
name_quick tw13769103115541136327 for PySem.W.namesOk by Mine.Internal.dq_eq
name_quick tw8159993647027272844 for PySem.W.namesOk by Mine.Internal.dq_eq
name_quick tw15254633091992210921 for PySem.W.namesOk by Mine.Internal.dq_eq
name_quick tw866717566613908145 for PySem.W.namesOk by Mine.Internal.dq_eq
name_quick tw16279288168775177219 for PySem.W.namesOk by Mine.Internal.dq_eq
name_quick tw18418582437962087742 for PySem.W.namesOk by Mine.Internal.dq_eq
name_quick tw256976265262469064 for PySem.W.namesOk by Mine.Internal.dq_eq
name_quick tw12297992134047619483 for PySem.W.namesOk by Mine.Internal.dq_eq
name_quick tw8972062959192195235 for PySem.W.namesOk by Mine.Internal.dq_eq
name_quick tw10258873121960336067 for PySem.W.namesOk by Mine.Internal.dq_eq
name_quick tw2827255003249426055 for PySem.W.namesOk by Mine.Internal.dq_eq
name_quick tw10826640976665885199 for PySem.W.namesOk by Mine.Internal.dq_eq
name_quick tw3300257896294614128 for PySem.W.namesOk by Mine.Internal.dq_eq
name_quick tw2244103112122482387 for PySem.W.namesOk by Mine.Internal.dq_eq
name_quick tw14226173905949225808 for PySem.W.namesOk by Mine.Internal.dq_eq
name_quick tw13135312941875745310 for PySem.W.namesOk by Mine.Internal.dq_eq
name_quick tw1825952489489211193 for PySem.W.namesOk by Mine.Internal.dq_eq
name_quick tw10551173667578312727 for PySem.W.namesOk by Mine.Internal.dq_eq
name_quick tw6469784823511061222 for PySem.W.namesOk by Mine.Internal.dq_eq
name_quick tw10016166984437732892 for PySem.W.namesOk by Mine.Internal.dq_eq
name_quick tw1950803216711332702 for PySem.W.namesOk by Mine.Internal.dq_eq
name_quick tw16955839230299176341 for PySem.W.namesOk by Mine.Internal.dq_eq
name_quick tw896239598344801917 for PySem.W.namesOk by Mine.Internal.dq_eq
name_quick tw4039707410889071942 for PySem.W.namesOk by Mine.Internal.dq_eq
name_quick tw726351398001015727 for PySem.W.namesOk by Mine.Internal.dq_eq
name_quick tw12652081859355081885 for PySem.W.namesOk by Mine.Internal.dq_eq
name_quick tw1607123104830579860 for PySem.W.namesOk by Mine.Internal.dq_eq
name_quick tw11384182702204212275 for PySem.W.namesOk by Mine.Internal.dq_eq
name_quick tw12903330217458380548 for PySem.W.namesOk by Mine.Internal.dq_eq
name_quick tw15861351967447197489 for PySem.W.namesOk by Mine.Internal.dq_eq
name_quick tw14243238205550065757 for PySem.W.namesOk by Mine.Internal.dq_eq
name_quick tw2483420100392427323 for PySem.W.namesOk by Mine.Internal.dq_eq
name_quick tw7164969610272591079 for PySem.W.namesOk by Mine.Internal.dq_eq
name_quick tw14520296925931582552 for PySem.W.namesOk by Mine.Internal.dq_eq
name_quick tw15925456577456769635 for PySem.W.namesOk by Mine.Internal.dq_eq
name_quick tw16298917771340976007 for PySem.W.namesOk by Mine.Internal.dq_eq
name_quick tw3475869608268796686 for PySem.W.namesOk by Mine.Internal.dq_eq
name_quick tw384561282630992784 for PySem.W.namesOk by Mine.Internal.dq_eq
name_quick tw13953587524928339648 for PySem.W.namesOk by Mine.Internal.dq_eq
name_quick tw8733291241859026926 for PySem.W.namesOk by Mine.Internal.dq_eq
name_quick tw15805137534098808535 for PySem.W.namesOk by Mine.Internal.dq_eq
name_quick tw2314633323536394700 for PySem.W.namesOk by Mine.Internal.dq_eq
name_quick tw3919386906821981792 for PySem.W.namesOk by Mine.Internal.dq_eq
name_quick tw16723463757517087524 for PySem.W.namesOk by Mine.Internal.dq_eq
name_quick tw1495895850433845275 for PySem.W.namesOk by Mine.Internal.dq_eq
name_quick tw7322748291113730364 for PySem.W.namesOk by Mine.Internal.dq_eq
name_quick tw4635989785427082552 for PySem.W.namesOk by Mine.Internal.dq_eq
name_quick tw2570914705882880060 for PySem.W.namesOk by Mine.Internal.dq_eq
name_quick tw991626836265849350 for PySem.W.namesOk by Mine.Internal.dq_eq
name_quick tw9646623106273453227 for PySem.W.namesOk by Mine.Internal.dq_eq
name_quick tw11692469974320434101 for PySem.W.namesOk by Mine.Internal.dq_eq
name_quick tw17760279517084355780 for PySem.W.namesOk by Mine.Internal.dq_eq
name_quick tw15590096980072825465 for PySem.W.namesOk by Mine.Internal.dq_eq
name_quick tw4684226298888400098 for PySem.W.namesOk by Mine.Internal.dq_eq
name_quick tw3543459598558145280 for PySem.W.namesOk by Mine.Internal.dq_eq
name_quick tw12330612334027959195 for PySem.W.namesOk by Mine.Internal.dq_eq
name_quick tw14703100239697439463 for PySem.W.namesOk by Mine.Internal.dq_eq
name_quick tw1979317910248211280 for PySem.W.namesOk by Mine.Internal.dq_eq
name_quick tw17518593693041627797 for PySem.W.namesOk by Mine.Internal.dq_eq
name_quick tw11853640710764476214 for PySem.W.namesOk by Mine.Internal.dq_eq
name_quick tw13437419889732721216 for PySem.W.namesOk by Mine.Internal.dq_eq
name_quick tw5344687154915797982 for PySem.W.namesOk by Mine.Internal.dq_eq
name_quick tw17187875760726034783 for PySem.W.namesOk by Mine.Internal.dq_eq
name_quick tw6968137755033780318 for PySem.W.namesOk by Mine.Internal.dq_eq
name_quick tw12382822922155266910 for PySem.W.namesOk by Mine.Internal.dq_eq
name_quick tw11066385474520676512 for PySem.W.namesOk by Mine.Internal.dq_eq
name_quick tw4734895289157585001 for PySem.W.namesOk by Mine.Internal.dq_eq
name_quick tw4906484309439969231 for PySem.W.namesOk by Mine.Internal.dq_eq
name_quick tw3419001889969749887 for PySem.W.namesOk by Mine.Internal.dq_eq
name_quick tw643336161829623379 for PySem.W.namesOk by Mine.Internal.dq_eq
name_quick tw4436474186459923750 for PySem.W.namesOk by Mine.Internal.dq_eq
name_quick tw11907897558876765624 for PySem.W.namesOk by Mine.Internal.dq_eq
name_quick tw1142673529048489019 for PySem.W.namesOk by Mine.Internal.dq_eq
name_quick tw3374319085511977134 for PySem.W.namesOk by Mine.Internal.dq_eq
name_quick tw3238445694619138142 for PySem.W.namesOk by Mine.Internal.dq_eq
name_quick tw4077048163395320219 for PySem.W.namesOk by Mine.Internal.dq_eq
name_quick tw855453113358079251 for PySem.W.namesOk by Mine.Internal.dq_eq
name_quick tw140001813534094272 for PySem.W.namesOk by Mine.Internal.dq_eq
name_quick tw8760152093665844161 for PySem.W.namesOk by Mine.Internal.dq_eq
name_quick tw5323657890516693427 for PySem.W.namesOk by Mine.Internal.dq_eq
name_quick tw9495317472360511255 for PySem.W.namesOk by Mine.Internal.dq_eq
name_quick tw15539815450414544023 for PySem.W.namesOk by Mine.Internal.dq_eq
name_quick tw10624116801336726872 for PySem.W.namesOk by Mine.Internal.dq_eq
name_quick tw5362036446546632119 for PySem.W.namesOk by Mine.Internal.dq_eq
name_quick tw11962351593759143498 for PySem.W.namesOk by Mine.Internal.dq_eq
name_quick tw447263597446747957 for PySem.W.namesOk by Mine.Internal.dq_eq
name_quick tw8285278889055680438 for PySem.W.namesOk by Mine.Internal.dq_eq
name_quick tw5537553045615171315 for PySem.W.namesOk by Mine.Internal.dq_eq
name_quick tw8422229294311615681 for PySem.W.namesOk by Mine.Internal.dq_eq
name_quick tw12887044766017154078 for PySem.W.namesOk by Mine.Internal.dq_eq
name_quick tw11898673842065290130 for PySem.W.namesOk by Mine.Internal.dq_eq
name_quick tw13956191218907399338 for PySem.W.namesOk by Mine.Internal.dq_eq
name_quick tw12740759652641322565 for PySem.W.namesOk by Mine.Internal.dq_eq
name_quick tw13812277999558781770 for PySem.W.namesOk by Mine.Internal.dq_eq
name_quick tw6105849179199505303 for PySem.W.namesOk by Mine.Internal.dq_eq
name_quick tw523537741815420091 for PySem.W.namesOk by Mine.Internal.dq_eq
name_quick tw10910644110388302437 for PySem.W.namesOk by Mine.Internal.dq_eq
name_quick tw8219003486749837733 for PySem.W.namesOk by Mine.Internal.dq_eq
name_quick tw11161164713144168021 for PySem.W.namesOk by Mine.Internal.dq_eq
name_quick tw17817366049700826239 for PySem.W.namesOk by Mine.Internal.dq_eq
name_quick tw1840220198017710270 for PySem.W.namesOk by Mine.Internal.dq_eq
name_quick tw16784745622988905711 for PySem.W.namesOk by Mine.Internal.dq_eq
name_quick tw1467881925912835984 for PySem.W.namesOk by Mine.Internal.dq_eq
name_quick tw13547939009206843870 for PySem.W.namesOk by Mine.Internal.dq_eq
name_quick tw17464319187374939960 for PySem.W.namesOk by Mine.Internal.dq_eq
name_quick tw7480016910919988345 for PySem.W.namesOk by Mine.Internal.dq_eq
name_quick tw11266997524610791606 for PySem.W.namesOk by Mine.Internal.dq_eq
name_quick tw17292613610259460706 for PySem.W.namesOk by Mine.Internal.dq_eq
name_quick tw9592521066531166775 for PySem.W.namesOk by Mine.Internal.dq_eq
name_quick tw6356304189028158447 for PySem.W.namesOk by Mine.Internal.dq_eq
name_quick tw16728255500844073214 for PySem.W.namesOk by Mine.Internal.dq_eq
name_quick tw13810262117814702294 for PySem.W.namesOk by Mine.Internal.dq_eq
name_quick tw2107523057676978006 for PySem.W.namesOk by Mine.Internal.dq_eq
name_quick tw13757698761724263525 for PySem.W.namesOk by Mine.Internal.dq_eq
name_quick tw7217548393331319763 for PySem.W.namesOk by Mine.Internal.dq_eq
name_quick tw2694234056635809718 for PySem.W.namesOk by Mine.Internal.dq_eq
name_quick tw1000662321505670351 for PySem.W.namesOk by Mine.Internal.dq_eq
name_quick tw5459702643516471331 for PySem.W.namesOk by Mine.Internal.dq_eq
name_quick tw15779231459743154856 for PySem.W.namesOk by Mine.Internal.dq_eq
name_quick tw5725222548895626118 for PySem.W.namesOk by Mine.Internal.dq_eq
name_quick tw15402603294489630176 for PySem.W.namesOk by Mine.Internal.dq_eq
name_quick tw6405511729158686954 for PySem.W.namesOk by Mine.Internal.dq_eq
name_quick tw1725486776273817318 for PySem.W.namesOk by Mine.Internal.dq_eq
name_quick tw140236481695663071 for PySem.W.namesOk by Mine.Internal.dq_eq
name_quick tw8949853181751564097 for PySem.W.namesOk by Mine.Internal.dq_eq
name_quick tw10345075266393484897 for PySem.W.namesOk by Mine.Internal.dq_eq
name_quick tw539538531456391632 for PySem.W.namesOk by Mine.Internal.dq_eq
name_quick tw14664691819916384248 for PySem.W.namesOk by Mine.Internal.dq_eq
name_quick tw9615563845995560447 for PySem.W.namesOk by Mine.Internal.dq_eq
name_quick tw4849480874435393781 for PySem.W.namesOk by Mine.Internal.dq_eq
name_quick tw2474200967059427378 for PySem.W.namesOk by Mine.Internal.dq_eq
name_quick tw13055953723892786844 for PySem.W.namesOk by Mine.Internal.dq_eq
name_quick tw18146532975450069615 for PySem.W.namesOk by Mine.Internal.dq_eq
name_quick tw1708089923452030704 for PySem.W.namesOk by Mine.Internal.dq_eq
name_quick tw6128145076113358165 for PySem.W.namesOk by Mine.Internal.dq_eq
name_quick tw14958820412457663293 for PySem.W.namesOk by Mine.Internal.dq_eq
name_quick tw15227483606004533461 for PySem.W.namesOk by Mine.Internal.dq_eq
name_quick tw2692750590507578028 for PySem.W.namesOk by Mine.Internal.dq_eq
name_quick tw9848817304349107530 for PySem.W.namesOk by Mine.Internal.dq_eq
name_quick tw2492000799826889573 for PySem.W.namesOk by Mine.Internal.dq_eq
name_quick tw13034982811429478159 for PySem.W.namesOk by Mine.Internal.dq_eq
name_quick tw16053306600634468012 for PySem.W.namesOk by Mine.Internal.dq_eq
name_quick tw17334828202450815106 for PySem.W.namesOk by Mine.Internal.dq_eq
name_quick tw740290905518256060 for PySem.W.namesOk by Mine.Internal.dq_eq
name_quick tw4547051000311932777 for PySem.W.namesOk by Mine.Internal.dq_eq
name_quick tw5498123283257192965 for PySem.W.namesOk by Mine.Internal.dq_eq
name_quick tw3239113980409921550 for PySem.W.namesOk by Mine.Internal.dq_eq
name_quick tw12770481643036789091 for PySem.W.namesOk by Mine.Internal.dq_eq
name_quick tw87601786513091389 for PySem.W.namesOk by Mine.Internal.dq_eq
name_quick tw6472337539984862722 for PySem.W.namesOk by Mine.Internal.dq_eq
name_quick tw5667099127317398114 for PySem.W.namesOk by Mine.Internal.dq_eq
name_quick tw14842496431369740429 for PySem.W.namesOk by Mine.Internal.dq_eq
name_quick tw6056707288978253535 for PySem.W.namesOk by Mine.Internal.dq_eq
name_quick tw12772213712371865176 for PySem.W.namesOk by Mine.Internal.dq_eq
open_top hd for PySem.Challenge.rw_kl0306_01
theorem Mine.Internal.fresh1 : True ∧ True := by
  w_top off
  first | (walk1; fail) | exact ⟨trivial, trivial⟩
section PartTG
open PySem PySem.W PyProof.Rows
namespace Mine.Internal
noncomputable abbrev tgtL (w : World) (wr da ds ns pm ps : Nat) (rs rd : Bool) (tz : Nat → Tok) : List DictEntry := [{ hash := PyData.keyHash w.params (Str.ofString "_write"), key := Value.str (Str.ofString "_write") (tz 1), val := Value.ref wr }, { hash := PyData.keyHash w.params (Str.ofString "_data"), key := Value.str (Str.ofString "_data") (tz 2), val := Value.ref da }, { hash := PyData.keyHash w.params (Str.ofString "_with_comments"), key := Value.str (Str.ofString "_with_comments") (tz 3), val := Value.bool false }, { hash := PyData.keyHash w.params (Str.ofString "_strip_text"), key := Value.str (Str.ofString "_strip_text") (tz 4), val := Value.bool false }, { hash := PyData.keyHash w.params (Str.ofString "_exclude_attrs"), key := Value.str (Str.ofString "_exclude_attrs") (tz 5), val := Value.none }, { hash := PyData.keyHash w.params (Str.ofString "_exclude_tags"), key := Value.str (Str.ofString "_exclude_tags") (tz 6), val := Value.none }, { hash := PyData.keyHash w.params (Str.ofString "_rewrite_prefixes"), key := Value.str (Str.ofString "_rewrite_prefixes") (tz 7), val := Value.bool false }, { hash := PyData.keyHash w.params (Str.ofString "_qname_aware_tags"), key := Value.str (Str.ofString "_qname_aware_tags") (tz 8), val := Value.none }, { hash := PyData.keyHash w.params (Str.ofString "_find_qname_aware_attrs"), key := Value.str (Str.ofString "_find_qname_aware_attrs") (tz 9), val := Value.none }, { hash := PyData.keyHash w.params (Str.ofString "_declared_ns_stack"), key := Value.str (Str.ofString "_declared_ns_stack") (tz 10), val := Value.ref ds }, { hash := PyData.keyHash w.params (Str.ofString "_ns_stack"), key := Value.str (Str.ofString "_ns_stack") (tz 11), val := Value.ref ns }, { hash := PyData.keyHash w.params (Str.ofString "_prefix_map"), key := Value.str (Str.ofString "_prefix_map") (tz 12), val := Value.ref pm }, { hash := PyData.keyHash w.params (Str.ofString "_preserve_space"), key := Value.str (Str.ofString "_preserve_space") (tz 13), val := Value.ref ps }, { hash := PyData.keyHash w.params (Str.ofString "_pending_start"), key := Value.str (Str.ofString "_pending_start") (tz 14), val := Value.none }, { hash := PyData.keyHash w.params (Str.ofString "_root_seen"), key := Value.str (Str.ofString "_root_seen") (tz 15), val := Value.bool rs }, { hash := PyData.keyHash w.params (Str.ofString "_root_done"), key := Value.str (Str.ofString "_root_done") (tz 16), val := Value.bool rd }, { hash := PyData.keyHash w.params (Str.ofString "_ignored_depth"), key := Value.str (Str.ofString "_ignored_depth") (tz 17), val := Value.int 0 (tz 0) }]
noncomputable abbrev lexL (w : World) (ln BX pb : Nat) (x0 x1 x2 x3 x4 x5 : Tok) : List DictEntry := [{ hash := PyData.keyHash w.params (Str.ofString "lineno"), key := Value.str (Str.ofString "lineno") x1, val := Value.int (ln : Nat) x0 }, { hash := PyData.keyHash w.params (Str.ofString "instream"), key := Value.str (Str.ofString "instream") x2, val := Value.ref BX }, { hash := PyData.keyHash w.params (Str.ofString "whitespace"), key := Value.str (Str.ofString "whitespace") x3, val := Value.str (Str.ofString "\n\t\r ") x4 }, { hash := PyData.keyHash w.params (Str.ofString "pushback"), key := Value.str (Str.ofString "pushback") x5, val := Value.ref pb }]
noncomputable abbrev benL (w : World) (pbB fR : Nat) (b0 b1 b2 b3 b4 b5 b6 : Tok) : List DictEntry := [{ hash := PyData.keyHash w.params (Str.ofString "lineno"), key := Value.str (Str.ofString "lineno") b1, val := Value.int 1 b0 }, { hash := PyData.keyHash w.params (Str.ofString "instream"), key := Value.str (Str.ofString "instream") b2, val := Value.none }, { hash := PyData.keyHash w.params (Str.ofString "whitespace"), key := Value.str (Str.ofString "whitespace") b3, val := Value.str (Str.ofString "\n\t\r ") b4 }, { hash := PyData.keyHash w.params (Str.ofString "pushback"), key := Value.str (Str.ofString "pushback") b5, val := Value.ref pbB }, { hash := PyData.keyHash w.params (Str.ofString "read"), key := Value.str (Str.ofString "read") b6, val := Value.ref fR }]
end Mine.Internal
end PartTG
section PartPL
open PySem PySem.W PyProof.Rows
namespace Mine.Internal
theorem if_no {α : Type} {M : Model} {A : Around} {c : Prop} [Decidable c] {a b : PySem.Sem α} {Q : α → Shared → Prop} {E : Value → Shared → Prop} {s : Shared} (h : ¬ c) (k : wpAny M A b Q E s) : wpAny M A (if c then a else b) Q E s := by rw [if_neg h]; exact k
theorem if_yes {α : Type} {M : Model} {A : Around} {c : Prop} [Decidable c] {a b : PySem.Sem α} {Q : α → Shared → Prop} {E : Value → Shared → Prop} {s : Shared} (h : c) (k : wpAny M A a Q E s) : wpAny M A (if c then a else b) Q E s := by rw [if_pos h]; exact k
noncomputable def A2 {α β : Type} (R : α → β → Prop) (vs : List α) : List β → Prop :=
  vs.rec (fun ps => ps.rec True fun _ _ _ => False) fun v _ ih ps => ps.rec False fun p ps _ => R v p ∧ ih ps
section
variable {α β : Type} {R : α → β → Prop}
theorem A2.ind {M : List α → List β → Prop} (h0 : M [] []) (h1 : ∀ v p vs ps, R v p → A2 R vs ps → M vs ps → M (v :: vs) (p :: ps)) {vs : List α} : ∀ {ps : List β}, A2 R vs ps → M vs ps := by
  induction vs with
  | nil => intro ps h; cases ps with
    | nil => exact h0
    | cons p ps => exact h.elim
  | cons v vs ih => intro ps h; cases ps with
    | nil => exact h.elim
    | cons p ps => exact h1 v p vs ps h.1 h.2 (ih h.2)
theorem A2.app {vs us : List α} {ps qs : List β} (h : A2 R vs ps) (k : A2 R us qs) : A2 R (vs ++ us) (ps ++ qs) :=
  A2.ind (R := R) (M := fun vs ps => A2 R (vs ++ us) (ps ++ qs)) k (fun _ _ _ _ a _ b => And.intro a b) h
theorem A2.length {vs : List α} {ps : List β} (h : A2 R vs ps) : vs.length = ps.length :=
  A2.ind (R := R) (M := fun (vs : List α) (ps : List β) => vs.length = ps.length) rfl (fun _ _ _ _ _ _ e => congrArg Nat.succ e) h
theorem A2.mono {R' : α → β → Prop} (hr : ∀ v p, R v p → R' v p) {vs : List α} {ps : List β} (h : A2 R vs ps) : A2 R' vs ps :=
  A2.ind (R := R) (M := fun vs ps => A2 R' vs ps) trivial (fun _ _ _ _ a _ b => ⟨hr _ _ a, b⟩) h
theorem A2.get {vs : List α} {ps : List β} (h : A2 R vs ps) : ∀ {i : Nat} {v : α}, vs[i]? = some v → ∃ p, ps[i]? = some p ∧ R v p :=
  A2.ind (R := R) (M := fun (vs : List α) (ps : List β) => ∀ {i : Nat} {v : α}, vs[i]? = some v → ∃ p, ps[i]? = some p ∧ R v p) (fun e => nomatch e)
    (fun _ p _ _ a _ b {i _} => i.casesOn (fun e => ⟨p, rfl, Option.some.inj e ▸ a⟩) fun _ e => b e) h
theorem A2.got {vs : List α} {ps : List β} (h : A2 R vs ps) : ∀ {i : Nat} {p : β}, ps[i]? = some p → ∃ v, vs[i]? = some v ∧ R v p :=
  A2.ind (R := R) (M := fun (vs : List α) (ps : List β) => ∀ {i : Nat} {p : β}, ps[i]? = some p → ∃ v, vs[i]? = some v ∧ R v p) (fun e => nomatch e)
    (fun v _ _ _ a _ b {i _} => i.casesOn (fun e => ⟨v, rfl, Option.some.inj e ▸ a⟩) fun _ e => b e) h
end
noncomputable abbrev S (l : List Nat) : Str := ⟨l.toArray⟩
noncomputable def hexD : Nat → Nat → List Nat
  | 0, n => [65 + n % 16]
  | k + 1, n => (65 + n / 16 ^ (k + 1) % 16) :: hexD k n
theorem hexD_0 {n : Nat} : hexD 0 n = [65 + n % 16] := rfl
theorem hexD_c {k n : Nat} : hexD (k + 1) n = (65 + n / 16 ^ (k + 1) % 16) :: hexD k n := rfl
noncomputable def letters (n : Nat) : List Nat := hexD (n.log2 / 4) n
noncomputable def pows : Nat → List Int
  | 0 => [1]
  | k + 1 => 16 ^ (k + 1) :: pows k
theorem pows_c {k : Nat} : pows (k + 1) = 16 ^ (k + 1) :: pows k := rfl
theorem pows_get : ∀ (k i : Nat), i ≤ k → (pows k)[i]? = some (16 ^ (k - i))
  | 0, i, h => by
    have : i = 0 := by (first | decide | lia | omega)
    subst this; rfl
  | k + 1, 0, _ => rfl
  | k + 1, i + 1, h => by
    rw [pows_c, List.getElem?_cons_succ, pows_get k i (by (first | decide | lia | omega))]
    congr 2; (first | decide | lia | omega)
theorem hexD_length : ∀ k n, (hexD k n).length = k + 1
  | 0, _ => rfl
  | k + 1, n => by rw [hexD_c, List.length_cons, hexD_length k]
theorem hexD_get : ∀ (k n i : Nat), i ≤ k → (hexD k n)[i]? = some (65 + n / 16 ^ (k - i) % 16)
  | 0, n, i, h => by
    have : i = 0 := by (first | decide | lia | omega)
    subst this; simp [hexD_0]
  | k + 1, n, 0, _ => rfl
  | k + 1, n, i + 1, h => by
    rw [hexD_c, List.getElem?_cons_succ, hexD_get k n i (by (first | decide | lia | omega)), show k + 1 - (i + 1) = k - i by (first | decide | lia | omega)]
theorem pow16 (k : Nat) : (16 : Nat) ^ k = 2 ^ (4 * k) := by rw [Nat.pow_mul]
theorem letters_of {n k : Nat} (h1 : 16 ^ k ≤ n ∨ k = 0) (h2 : n < 16 ^ (k + 1)) : letters n = hexD k n := by
  unfold letters
  congr 1
  rw [pow16] at h2
  by_cases hn : n = 0
  · subst hn
    rcases h1 with h | h
    · have : 0 < 16 ^ k := Nat.pow_pos (by decide)
      (first | decide | lia | omega)
    · subst h; rfl
  · have l2 : n.log2 < 4 * (k + 1) := (Nat.log2_lt hn).mpr h2
    rcases h1 with h | h
    · rw [pow16] at h
      have l1 : 4 * k ≤ n.log2 := (Nat.le_log2 hn).mpr h
      exact Nat.div_eq_of_lt_le (by rw [Nat.mul_comm]; exact l1) (by rw [Nat.mul_comm]; exact l2)
    · subst h; exact Nat.div_eq_of_lt l2
theorem pow16_lt {j : Nat} {n : Int} (h : (16 : Int) ^ j * 16 ≤ n) (hn : n < 2 ^ 120) : j < 30 := by
  refine Nat.lt_of_not_le fun hj => ?_
  have h1 : (16 : Nat) ^ 30 ≤ 16 ^ j := Nat.pow_le_pow_right (by decide) hj
  have h2 : ((16 : Int) ^ j) = (((16 : Nat) ^ j : Nat) : Int) := by rw [Int.natCast_pow]; rfl
  rw [h2] at h
  have h3 : (16 : Nat) ^ 30 = 2 ^ 120 := by decide +kernel
  rw [h3] at h1
  have h4 : ((2 ^ 120 : Nat) : Int) ≤ ((16 ^ j : Nat) : Int) := Int.ofNat_le.mpr h1
  have h5 : ((2 ^ 120 : Nat) : Int) = 2 ^ 120 := by decide +kernel
  (first | decide | lia | omega)
theorem strs_append {vs ws : List Value} {xs ys : List Str} (h : StrsAre vs xs) (k : StrsAre ws ys) : StrsAre (vs ++ ws) (xs ++ ys) := by
  induction h with
  | nil => exact k
  | cons y t _ ih => exact .cons y t ih
theorem strs_snoc {vs : List Value} {xs : List Str} (h : StrsAre vs xs) (y : Str) (t : Tok) : StrsAre (vs ++ [.str y t]) (xs ++ [y]) := strs_append h (.cons y t .nil)
theorem S_append (a b : List Nat) : S a ++ S b = S (a ++ b) := by
  refine Str.ext' ?_
  rw [Str.cps_append]
  simp
theorem join_S : ∀ (xs : List (List Nat)), Str.join Str.empty (xs.map S) = S xs.flatten
  | [] => rfl
  | [x] => by simp [Str.join]
  | x :: y :: r => by
    have ih := join_S (y :: r)
    show S x ++ Str.empty ++ Str.join Str.empty ((y :: r).map S) = _
    rw [ih]
    have e : S x ++ Str.empty = S x := S_append x []|>.trans (by rw [List.append_nil])
    rw [e, S_append]; rfl
end Mine.Internal
namespace Mine.Internal
theorem flat1 : ∀ l : List Nat, (l.map fun c => [c]).flatten = l
  | [] => rfl
  | c :: r => by rw [List.map_cons, List.flatten_cons, flat1 r]; rfl
theorem join1 (l : List Nat) : Txt.join (Str.ofString "") (l.map fun c => S [c]) = S l := by
  unfold Txt.join
  rw [PySem.StrLaws.glued_eq_join, show Str.ofString "" = Str.empty from rfl]
  have e : (l.map fun c => S [c]) = (l.map fun c => [c]).map S := by rw [List.map_map]; rfl
  rw [e, join_S, flat1]
theorem len1 : ∀ l : List Nat, ((l.map fun c => S [c]).map (·.length)).sum = l.length
  | [] => rfl
  | c :: r => by rw [List.map_cons, List.map_cons, List.sum_cons, len1 r, List.length_cons]; show 1 + _ = _; (first | decide | lia | omega)
end Mine.Internal
end PartPL
section PartML
open PySem PySem.W PyProof.Rows PyProof.Rows.LCg
set_option maxHeartbeats 8000000
namespace Mine.Internal
theorem sub_step {n i : Nat} (h : i < n) : n + 1 - (i + 1) < n + 1 - i := by
  rw [Nat.add_sub_add_right, Nat.succ_sub (Nat.le_of_lt h)]; exact Nat.lt_succ_self _
noncomputable abbrev aA (dp un : Nat) (gd : Option (List Code)) (env : Env) (outer : List Env) : Around := { handled := none, depth := dp, frames := some (env :: outer), guards := gd, units := un }
noncomputable def Stop (P : Prop) : Prop := P
theorem stop_out {P : Prop} (h : Stop P) : P := h
theorem stop_in {P : Prop} (h : P) : Stop P := h
theorem allLt_mem {d : Addr} {l : List (Addr × Obj)} (h : AllLt d l) : ∀ p ∈ l, p.1 < d := by
  induction l with
  | nil => intro p hp; cases hp
  | cons a r ih =>
    intro p hp
    rcases List.mem_cons.mp hp with rfl | hp
    · exact h.1
    · exact ih h.2 p hp
noncomputable def TurnWp (prog : Program) (w : World) (A : Around) (target : Expr) (ifs : List Expr) (elt : Expr) (cenv : Env) (it v : Value) (G : Option Value → Shared → Prop) (E : Value → Shared → Prop) (s : Shared) : Prop :=
  wpAny (model prog w) A (letOwnedTupleGo target it v) (fun _ s₁ => wpAny (model prog w) A (assign target cenv v) (fun _ s₂ =>
    wpAny (model prog w) A (forIn ifs true fun c r => if r = true then do let ok ← isTrue c cenv (eval c cenv); pure (ForInStep.yield ok) else pure (ForInStep.yield r)) (fun ok s₃ =>
      if ok = true then wpAny (model prog w) A (eval elt cenv) (fun y s₄ => G (some y) s₄) E s₃ else G none s₃) E s₂) E s₁) E s
section
variable {prog : Program} {w : World} {A : Around} {E : Value → Shared → Prop} {s : Shared} {h₀ : Heap} {L : Nat} {m : Str → Option Value} {env : Env}
theorem compLoop_turn {elt target iter : Expr} {ifs : List Expr} {scope : Scope} {pos : Pos} {it acc : Value} {cenv : Env} {R : Result → Shared → Prop} (I : Nat → Shared → Prop)
    (turn : ∀ n s, I n s → wpAny (model prog w) A (pyNext it) (fun r s₁ => match r with
      | none => R (.ok .next) s₁
      | some v => TurnWp prog w A target ifs elt cenv it v (fun o s₂ => match o with
          | none => ∃ k, k < n ∧ I k s₂
          | some y => wpAny (model prog w) A (call (.builtin "list.append") [acc, y]) (fun _ s₃ => ∃ k, k < n ∧ I k s₃) (notedBy (model prog w) A cenv fun e s' => R (.error e) s') s₂)
          (notedBy (model prog w) A cenv fun e s' => R (.error e) s') s₁) (notedBy (model prog w) A cenv fun e s' => R (.error e) s') s)
    (n : Nat) (h : I n s) : codeAny (model prog w) A (.compLoop (.ListComp elt [⟨target, iter, ifs, 0⟩] scope pos) 0 it acc cenv) R s := by
  refine codeAny_loop rfl I (fun n s hI => ?_) n h
  show wpAny _ A ((compTurn (.ListComp elt [⟨target, iter, ifs, 0⟩] scope pos) 0 it acc cenv).onRaise (fun x => do noteFrame x cenv; theTreesLotGoes x)) _ _ s
  refine wpAny_noted ?_
  rw [compTurn_list]
  refine wpAny_bind (wpAny_standAt (wpAny_bind (wpAny_mono (turn n s hI) (fun r s₁ h₁ => ?_) fun _ _ x => x)))
  cases r with
  | none => exact wpAny_pure h₁
  | some v =>
    refine wpAny_bind (wpAny_mono h₁ (fun _ s₂ h₂ => ?_) fun _ _ x => x)
    refine wpAny_bind (wpAny_mono h₂ (fun _ s₃ h₃ => ?_) fun _ _ x => x)
    refine wpAny_bind (wpAny_mono h₃ (fun ok s₄ h₄ => ?_) fun _ _ x => x)
    cases ok with
    | false => exact wpAny_pure ⟨rfl, h₄⟩
    | true =>
      refine wpAny_bind (wpAny_bind (wpAny_mono h₄ (fun y s₅ h₅ => wpAny_bind (wpAny_mono h₅ (fun _ s₆ h₆ => wpAny_pure (wpAny_pure ⟨rfl, h₆⟩)) fun _ _ x => x)) fun _ _ x => x))
noncomputable def TurnEnd (GB : Array GenState → Prop) (h₀ : Heap) (L : Nat) (m : Str → Option Value) (s₂ : Shared) (I : Nat) (oI : Obj) (C D : Nat) (ys : List Value) (J : List Value → List (Addr × Obj) → Prop) (o : Option Value) (s' : Shared) : Prop :=
  ∀ zG : Prop, (∀ h' tk' gg oC mC nw, s' = { s₂ with heap := h', toks := tk', gens := gg } → GB gg → Fr h₀ L h' m → NsObj oC mC → News h₀ L h' ((I, oI) :: (C, oC) :: (D, lst ys) :: nw) → Off3 I C D nw → J (ys ++ o.toList) nw → zG) → zG
theorem my_block {elt target iter : Expr} {ifs : List Expr} {scope : Scope} {cl : List (Str × Addr)} {pos : Pos} {s₂ : Shared} {I : Nat} {fp : List Nat} {n : Nat} {P : Nat → Value → Prop} {St : Nat → Heap → Prop} {news : List (Addr × Obj)}
    {RR : Value → Addr → Result → Shared → Prop} {GB : Array GenState → Prop} (J : Nat → List Value → List (Addr × Obj) → Prop)
    (W : Walks prog w A I fp [I] n P St) (hsz : n ≤ sizeLine) (hIo : ∀ i h, St i h → ∃ o, h.get? I = some o)
    (hSt : ∀ i h h' nw ys, St i h → h.get? I = h'.get? I → (∀ b o, h₀.get? b = some o → h'.get? b = some o) → News h₀ L h' nw → J i ys nw → St i h')
    (hcell : ∀ y ∈ scope.names, y.2 ≠ .cell) (hkind : scope.kind = .function) (hg : GB s₂.gens) (hst : St 0 s₂.heap) (hfp : ∀ b ∈ fp, b < s₂.heap.objs.size)
    (F : Fr h₀ L s₂.heap m) (N : News h₀ L s₂.heap news) (hIL : L ≠ I) (hI₀ : h₀.get? I = none) (off : ∀ p ∈ news, p.1 ≠ I) (hJ : J 0 [] news)
    (turn : ∀ i v ys nw oI (C : Nat) oC (D : Nat) mC h tk gg (E' : Value → Shared → Prop), GB gg → i < n → P i v → J i ys nw → NsObj oC mC → Fr h₀ L h m → News h₀ L h ((I, oI) :: (C, oC) :: (D, lst ys) :: nw) → Off3 I C D nw → (I ≠ C ∧ I ≠ D ∧ C ≠ D) → St (i + 1) h →
      TurnWp prog w A target ifs elt (compEnvC scope cl C env) (.ref I) v (TurnEnd GB h₀ L m s₂ I oI C D ys (J (i + 1))) E' { s₂ with heap := h, toks := tk, gens := gg })
    (fin : ∀ (D C : Nat) h tk gg m' ys nw, GB gg → Fr h₀ L h m → News h₀ L h ((D, lst ys) :: nw) → Off1 D nw → h.Ns C m' → h₀.get? C = none → h₀.get? D = none → C ≠ L → D ≠ L → C ≠ D → (∀ p ∈ nw, p.1 ≠ C) → J n ys nw → RR (.ref D) C (.ok .next) { s₂ with heap := h, toks := tk, gens := gg }) :
    wpAny (model prog w) A (newList []) (fun acc s₃ => wpAny (model prog w) A (newFunctionEnv scope env.globals cl [] env.qual none .none (some env)) (fun cenv s₄ =>
      codeAny (model prog w) A (.compStart (.ListComp elt [⟨target, iter, ifs, 0⟩] scope pos) 0 (.ref I) acc { cenv with scope := relabel scope env }) (RR acc cenv.locals) s₄) E s₃) E s₂ := by
  refine wpAny_newObj_type (wpAny_newFunctionEnv hcell (by intro y hy; simp at hy) (fun h₁ hns hsb => ?_) hkind)
  dsimp only at hns hsb ⊢
  have hD : ∃ D : Nat, D = s₂.heap.objs.size := ⟨_, rfl⟩
  show (let zG : Prop := _; zG)
  intro zG
  obtain ⟨D, eD⟩ := hD
  have hH : ∃ H2, H2 = s₂.heap.push { cls := .type "list", dict := none, data := .seq ([] : List Value).toArray } := ⟨_, rfl⟩
  obtain ⟨H2, eH⟩ := hH
  (try k_unmd); k_unfold
  rw [← eH] at hns hsb ⊢
  rw [← eD]
  have hC : ∃ C : Nat, C = H2.objs.size := ⟨_, rfl⟩
  obtain ⟨C, eC⟩ := hC
  rw [← eC] at hns hsb ⊢
  have eC' : C = D + 1 := by rw [eC, eH, Heap.size_push, eD]
  have lo : ∀ (b : Nat) o, s₂.heap.get? b = some o → b < D := fun b o e => eD ▸ Heap.lt_size e
  have hIlt : I < D := by obtain ⟨o, e⟩ := hIo _ _ hst; exact lo _ _ e
  have hLlt : L < D := eD ▸ F.ns.lt
  have fresh₀ : ∀ a : Nat, D ≤ a → h₀.get? a = none := fun a ha => by
    cases e : h₀.get? a with
    | none => rfl
    | some o' => exact absurd (lo _ _ (F.keep a o' e)) (Nat.not_lt.mpr ha)
  have hD₀ : h₀.get? D = none := fresh₀ _ (Nat.le_refl _)
  have hC₀ : h₀.get? C = none := fresh₀ _ (by (first | decide | lia | omega))
  have up : ∀ (b : Nat) o, s₂.heap.get? b = some o → h₁.get? b = some o := fun b o e => by
    have hb := lo b o e
    refine hsb.extBut b o (neN (by (first | decide | lia | omega))) (Heap.get?_push_of_some _ ?_)
    rw [eH]; exact Heap.get?_push_of_some _ e
  have hDo : h₁.get? D = some (lst []) := by
    refine hsb.extBut _ _ (neN (by (first | decide | lia | omega))) (Heap.get?_push_of_some _ ?_)
    rw [eH, eD]; exact Heap.get?_push_size _ rfl
  have hDC : D < C := by rw [eC']; exact Nat.lt_succ_self _
  have nID : I ≠ D := Nat.ne_of_lt hIlt
  have nIC : I ≠ C := Nat.ne_of_lt (Nat.lt_trans hIlt hDC)
  have nLD : L ≠ D := Nat.ne_of_lt hLlt
  have nLC : L ≠ C := Nat.ne_of_lt (Nat.lt_trans hLlt hDC)
  have nCD : C ≠ D := Nat.ne_of_gt hDC
  have hoff : Off3 I C D news := Off3.of fun p hp => by
    have h1 := lo _ _ (N p hp).1
    exact ⟨off p hp, neN (by (first | decide | lia | omega)), neN (by (first | decide | lia | omega))⟩
  have hfpD : ∀ b ∈ fp, b ≠ D ∧ b ≠ C := fun b hb => by have := hfp b hb; rw [← eD] at this; exact ⟨neN (by (first | decide | lia | omega)), neN (by (first | decide | lia | omega))⟩
  have loop : ∀ tk₁, codeAny (model prog w) A (.compLoop (.ListComp elt [⟨target, iter, ifs, 0⟩] scope pos) 0 (.ref I) (.ref D) (compEnvC scope cl C env)) (RR (.ref D) C) { s₂ with heap := h₁, toks := tk₁ } := by
    intro tk₁
    refine (fun (zk : ∀ (BJ : Nat → Shared → Prop), (∀ (k : Nat) (s' : Shared) (h' : Heap) (tk : Nat) (gg : Array GenState) (i : Nat) (ys : List Value) (mC : Str → Option Value) (nw : List (Addr × Obj)), (s' = { s₂ with heap := h', toks := tk, gens := gg }) → (GB gg) → (i ≤ n) → (k = n + 1 - i) → (ys.length ≤ i) → (St i h') → (Fr h₀ L h' m) → (h'.Ns C mC) → (News h₀ L h' ((D, lst ys) :: nw)) → (Off3 I C D nw) → (J i ys nw) → BJ k s') → (∀ (k : Nat) (s' : Shared) (zG : Prop), (∀ (h' : Heap) (tk : Nat) (gg : Array GenState) (i : Nat) (ys : List Value) (mC : Str → Option Value) (nw : List (Addr × Obj)), (s' = { s₂ with heap := h', toks := tk, gens := gg }) → (GB gg) → (i ≤ n) → (k = n + 1 - i) → (ys.length ≤ i) → (St i h') → (Fr h₀ L h' m) → (h'.Ns C mC) → (News h₀ L h' ((D, lst ys) :: nw)) → (Off3 I C D nw) → (J i ys nw) → zG) → BJ k s' → zG) → _) => zk (fun k s' => ∀ zG : Prop, (∀ (h' : Heap) (tk : Nat) (gg : Array GenState) (i : Nat) (ys : List Value) (mC : Str → Option Value) (nw : List (Addr × Obj)), (s' = { s₂ with heap := h', toks := tk, gens := gg }) → (GB gg) → (i ≤ n) → (k = n + 1 - i) → (ys.length ≤ i) → (St i h') → (Fr h₀ L h' m) → (h'.Ns C mC) → (News h₀ L h' ((D, lst ys) :: nw)) → (Off3 I C D nw) → (J i ys nw) → zG) → zG) (fun k s' h' tk gg i ys mC nw zh0 zh1 zh2 zh3 zh4 zh5 zh6 zh7 zh8 zh9 zh10 _ zk => zk h' tk gg i ys mC nw zh0 zh1 zh2 zh3 zh4 zh5 zh6 zh7 zh8 zh9 zh10) (fun k s' zG zk zh => zh zG zk)) ?_; intro BJ BJmk BJel
    refine compLoop_turn BJ ?_ (n + 1)
      (BJmk _ _ h₁ tk₁ s₂.gens 0 [] _ news rfl hg (Nat.zero_le _) rfl (Nat.zero_le _) (W.frame _ _ _ hst (fun b _ o e => up b o e)) (F.keeps up) hns (fun p hp => ?_) hoff hJ)
    · intro k s' hB
      refine BJel _ _ _ ?_ hB
      clear hB
      rintro h' tk gg i ys mC nw rfl hgg hi rfl hyl hst' F' hn' N' off' hJ'
      have o3 := off'.mem
      by_cases hlt : i < n
      · refine W.item i _ _ _ hlt hst' fun v h₂ tk₂ hP hst₂ hk₂ => ?_
        have hk1 : n + 1 - (i + 1) < n + 1 - i := sub_step hlt
        show (let zG : Prop := _; zG)
        intro zG
        obtain ⟨oI, eI⟩ := hIo _ _ hst₂
        obtain ⟨oC, heC, hoC⟩ := ns_obj (hn'.at' fun o e => hk₂ C o (by simp only [List.mem_singleton]; exact (by first | exact nID | exact nIC | exact nLD | exact nLC | exact nCD | exact Ne.symm nID | exact Ne.symm nIC | exact Ne.symm nLD | exact Ne.symm nLC | exact Ne.symm nCD | exact neN (by (first | decide | lia | omega)))) e)
        have F₂ : Fr h₀ L h₂ m := fr_but F' hk₂ hIL hI₀
        have N₂ : News h₀ L h₂ ((I, oI) :: (C, oC) :: (D, lst ys) :: nw) := fun p hp => by
          rcases List.mem_cons.mp hp with rfl | hp
          · exact ⟨eI, Ne.symm hIL, hI₀⟩
          rcases List.mem_cons.mp hp with rfl | hp
          · exact ⟨heC, (by show C ≠ L; exact (by first | exact nID | exact nIC | exact nLD | exact nLC | exact nCD | exact Ne.symm nID | exact Ne.symm nIC | exact Ne.symm nLD | exact Ne.symm nLC | exact Ne.symm nCD | exact neN (by (first | decide | lia | omega)))), hC₀⟩
          · refine ⟨hk₂ _ _ ?_ (N' p hp).1, (N' p hp).2⟩
            rcases List.mem_cons.mp hp with rfl | hp
            · simp only [List.mem_singleton]; exact (by first | exact nID | exact nIC | exact nLD | exact nLC | exact nCD | exact Ne.symm nID | exact Ne.symm nIC | exact Ne.symm nLD | exact Ne.symm nLC | exact Ne.symm nCD | exact (by first | exact nID | exact nIC | exact nLD | exact nLC | exact nCD | exact Ne.symm nID | exact Ne.symm nIC | exact Ne.symm nLD | exact Ne.symm nLC | exact Ne.symm nCD | exact neN (by (first | decide | lia | omega))))
            · simpa using (o3 p hp).1
        have tw := turn i v ys nw oI C oC D _ h₂ tk₂ gg (notedBy (model prog w) A (compEnvC scope cl C env) fun e s' => RR (.ref D) C (.error e) s') hgg hlt hP hJ' hoC F₂ N₂ off' ⟨nIC, nID, nCD⟩ hst₂
        have good : ∀ o s', TurnEnd GB h₀ L m s₂ I oI C D ys (J (i + 1)) o s' → (match o with
          | none => ∃ k, k < n + 1 - i ∧ BJ k s'
          | some y => wpAny (model prog w) A (call (.builtin "list.append") [.ref D, y]) (fun _ s₃ => ∃ k, k < n + 1 - i ∧ BJ k s₃) (notedBy (model prog w) A (compEnvC scope cl C env) fun e s' => RR (.ref D) C (.error e) s') s') := by
          intro o s' hT
          refine hT _ ?_
          rintro h₃ tk₃ gg₃ oC' mC' nw' rfl hgg₃ F₃ hoC' N₃ off₃ hJ₃
          have zI := (N₃ (I, oI) (.head _)).1
          have zC := (N₃ (C, oC') (.tail _ (.head _))).1
          have zD := (N₃ (D, lst ys) (.tail _ (.tail _ (.head _)))).1
          have N₃' : News h₀ L h₃ nw' := fun p hp => N₃ p (.tail _ (.tail _ (.tail _ hp)))
          have st₃ : St (i + 1) h₃ := hSt _ _ _ _ _ hst₂ (eI.trans zI.symm) F₃.keep N₃' hJ₃
          have o4 := off₃.mem
          cases o with
          | none =>
            refine ⟨n + 1 - (i + 1), hk1, BJmk _ _ h₃ tk₃ gg₃ (i + 1) ys mC' nw' rfl hgg₃ hlt rfl (Nat.le_succ_of_le hyl) st₃ F₃ (hoC'.ns zC) (fun p hp => ?_) off₃ (by simpa using hJ₃)⟩
            exact N₃ p (.tail _ (.tail _ hp))
          | some y =>
            refine append_at (hsz := by show ys.toArray.size ≤ sizeLine; rw [List.size_toArray]; (first | decide | lia | omega)) zD fun h₅ hs₅ hD₅ => ?_
            refine ⟨n + 1 - (i + 1), hk1, BJmk _ _ h₅ tk₃ gg₃ (i + 1) (ys ++ [y]) mC' nw' rfl hgg₃ hlt rfl (by rw [List.length_append, List.length_singleton]; exact Nat.succ_le_succ hyl) (W.frame _ _ _ st₃ fun b hb o e => hs₅.extBut b o (hfpD b hb).1 e)
              (F₃.change hs₅ (Ne.symm nLD) hD₀) ((hoC'.ns zC).sameBut hs₅ nCD) (fun p hp => ?_) off₃ (by simpa using hJ₃)⟩
            rcases List.mem_cons.mp hp with rfl | hp
            · exact ⟨hD₅.trans (congrArg some (lst_snoc ys y)), (by show D ≠ L; exact (by first | exact nID | exact nIC | exact nLD | exact nLC | exact nCD | exact Ne.symm nID | exact Ne.symm nIC | exact Ne.symm nLD | exact Ne.symm nLC | exact Ne.symm nCD | exact neN (by (first | decide | lia | omega)))), hD₀⟩
            · exact ⟨hs₅.extBut _ _ (o4 p hp).2.2 (N₃' p hp).1, (N₃' p hp).2⟩
        (try k_unmd); k_unfold
        refine wpAny_mono tw (fun _ s₃ h₃ => wpAny_mono h₃ (fun _ s₄ h₄ => wpAny_mono h₄ (fun ok s₅ h₅ => ?_) fun _ _ x => x) fun _ _ x => x) fun _ _ x => x
        cases ok with
        | false => exact good none _ h₅
        | true => exact wpAny_mono h₅ (fun y s₆ h₆ => good (some y) _ h₆) fun _ _ x => x
      · have e : n = i := by (first | decide | lia | omega)
        subst e
        refine W.done _ _ _ hst' fun h₂ tk₂ hk₂ => ?_
        refine fin D C h₂ tk₂ gg mC ys nw hgg (fr_but F' hk₂ hIL hI₀) (news_but N' hk₂ fun p hp => ?_) off'.one (hn'.at' fun o e => hk₂ C o (by simp only [List.mem_singleton]; exact (by first | exact nID | exact nIC | exact nLD | exact nLC | exact nCD | exact Ne.symm nID | exact Ne.symm nIC | exact Ne.symm nLD | exact Ne.symm nLC | exact Ne.symm nCD | exact neN (by (first | decide | lia | omega)))) e) hC₀ hD₀ (by first | exact nID | exact nIC | exact nLD | exact nLC | exact nCD | exact Ne.symm nID | exact Ne.symm nIC | exact Ne.symm nLD | exact Ne.symm nLC | exact Ne.symm nCD | exact (by first | exact nID | exact nIC | exact nLD | exact nLC | exact nCD | exact Ne.symm nID | exact Ne.symm nIC | exact Ne.symm nLD | exact Ne.symm nLC | exact Ne.symm nCD | exact neN (by (first | decide | lia | omega)))) (by first | exact nID | exact nIC | exact nLD | exact nLC | exact nCD | exact Ne.symm nID | exact Ne.symm nIC | exact Ne.symm nLD | exact Ne.symm nLC | exact Ne.symm nCD | exact (by first | exact nID | exact nIC | exact nLD | exact nLC | exact nCD | exact Ne.symm nID | exact Ne.symm nIC | exact Ne.symm nLD | exact Ne.symm nLC | exact Ne.symm nCD | exact neN (by (first | decide | lia | omega)))) (by first | exact nID | exact nIC | exact nLD | exact nLC | exact nCD | exact Ne.symm nID | exact Ne.symm nIC | exact Ne.symm nLD | exact Ne.symm nLC | exact Ne.symm nCD | exact (by first | exact nID | exact nIC | exact nLD | exact nLC | exact nCD | exact Ne.symm nID | exact Ne.symm nIC | exact Ne.symm nLD | exact Ne.symm nLC | exact Ne.symm nCD | exact neN (by (first | decide | lia | omega)))) (fun p hp => (o3 p hp).2.1) hJ'
        rcases List.mem_cons.mp hp with rfl | hp
        · show D ≠ I; exact (by first | exact nID | exact nIC | exact nLD | exact nLC | exact nCD | exact Ne.symm nID | exact Ne.symm nIC | exact Ne.symm nLD | exact Ne.symm nLC | exact Ne.symm nCD | exact (by first | exact nID | exact nIC | exact nLD | exact nLC | exact nCD | exact Ne.symm nID | exact Ne.symm nIC | exact Ne.symm nLD | exact Ne.symm nLC | exact Ne.symm nCD | exact neN (by (first | decide | lia | omega))))
        · exact (o3 p hp).1
    · rcases List.mem_cons.mp hp with rfl | hp
      · exact ⟨hDo, (by show D ≠ L; exact (by first | exact nID | exact nIC | exact nLD | exact nLC | exact nCD | exact Ne.symm nID | exact Ne.symm nIC | exact Ne.symm nLD | exact Ne.symm nLC | exact Ne.symm nCD | exact neN (by (first | decide | lia | omega)))), hD₀⟩
      · exact ⟨up _ _ (N p hp).1, (N p hp).2⟩
  exact codeAny_compStart_list (loop _) (W.self 0 _ _ _ (W.frame _ _ _ hst fun b _ o e => up b o e) (loop _))
noncomputable def Stable (h₀ : Heap) (L : Nat) (I : Nat) (St : Nat → Heap → Prop) (J : Nat → List (Addr × Obj) → Prop) : Prop :=
  ∀ i h h' nw, St i h → h.get? I = h'.get? I → (∀ b o, h₀.get? b = some o → h'.get? b = some o) → News h₀ L h' nw → J i nw → St i h'
noncomputable def CompAt (prog : Program) (w : World) (A : Around) (h₀ : Heap) (L : Nat) (m : Str → Option Value) (env : Env) (target : Expr) (ifs : List Expr) (elt : Expr) (scope : Scope) (cl : List (Str × Addr)) (GB : Array GenState → Prop) (FQ : Shared → Nat → Heap → Nat → Prop) (it : Value) (s₂ : Shared) : Prop :=
  ∀ zG : Prop, (GB s₂.gens → ∀ (I : Nat) (fp : List Nat) (n : Nat) (P : Nat → Value → Prop) (St : Nat → Heap → Prop) (news : List (Addr × Obj)) (J : Nat → List Value → List (Addr × Obj) → Prop), (it = .ref I) → (Walks prog w A I fp [I] n P St) → (n ≤ sizeLine) → ((∀ i h, St i h → ∃ o, h.get? I = some o)) → ((∀ ys, Stable h₀ L I St (fun i nw => J i ys nw))) → (St 0 s₂.heap) → ((∀ b ∈ fp, b < s₂.heap.objs.size)) → (Fr h₀ L s₂.heap m) → (News h₀ L s₂.heap news) → (L ≠ I) → (h₀.get? I = none) → ((∀ p ∈ news, p.1 ≠ I)) → (J 0 [] news) → ((∀ i v ys nw oI (C : Nat) oC (D : Nat) mC h tk gg (E' : Value → Shared → Prop), GB gg → i < n → P i v → J i ys nw → NsObj oC mC → Fr h₀ L h m → News h₀ L h ((I, oI) :: (C, oC) :: (D, lst ys) :: nw) → Off3 I C D nw → (I ≠ C ∧ I ≠ D ∧ C ≠ D) → St (i + 1) h → TurnWp prog w A target ifs elt (compEnvC scope cl C env) (.ref I) v (TurnEnd GB h₀ L m s₂ I oI C D ys (J (i + 1))) E' { s₂ with heap := h, toks := tk, gens := gg })) → ((∀ (D C : Nat) h tk gg m' ys nw, GB gg → Fr h₀ L h m → News h₀ L h ((D, lst ys) :: nw) → Off1 D nw → h.Ns C m' → h₀.get? C = none → h₀.get? D = none → C ≠ L → D ≠ L → C ≠ D → (∀ p ∈ nw, p.1 ≠ C) → J n ys nw → FQ { s₂ with heap := h, toks := tk, gens := gg } D h C)) → zG) → zG
theorem my_ListComp {elt target iter : Expr} {ifs : List Expr} {scope : Scope} {cl : List (Str × Addr)} {pos : Pos} {GB : Array GenState → Prop} {Q : Value → Shared → Prop}
    (hclos : closureFor scope env = pure cl) (hcell : ∀ y ∈ scope.names, y.2 ≠ .cell) (hkind : scope.kind = .function)
    (hnames : ∀ y ∈ scope.names, y.2 = .local → scope.names.lookup y.1 = some .local)
    (h : wpAny (model prog w) A (eval iter env) (fun xv s₁ => wpAny (model prog w) A (pyIter xv) (CompAt prog w A h₀ L m env target ifs elt scope cl GB
      (fun s₃ D h C => ∀ h', Heap.SameBut C h h' → Q (.ref D) { s₃ with heap := h' })) E s₁) E s)
    (hs : ∀ x, foldedSetIterable iter env x = pure x := by intro _; rfl) :
    wpAny (model prog w) A (eval (.ListComp elt [⟨target, iter, ifs, 0⟩] scope pos) env) Q E s := by
  rw [eval_ListComp]
  refine wpAny_comprehension_free (use := none) rfl hs hclos hkind hnames (wpAny_mono h (fun xv s₁ h₁ => wpAny_mono h₁ (fun it s₂ h₂ => ?_) fun _ _ e => e) fun _ _ e => e)
  refine h₂ _ ?_
  intro hgb I fp n P St news J zq W hsz hIo hSt hst hfp F N hIL hI₀ off hJ turn fin
  clear h₂
  subst zq
  refine my_block J W hsz hIo (fun i h h' nw ys a b c d e => hSt ys i h h' nw a b c d e) hcell hkind hgb hst hfp F N hIL hI₀ off hJ turn ?_
  intro D C h tk gg m' ys nw hgg F' N' o1 hn hC₀ hD₀ hCL hDL hCD offC hJn
  exact ⟨m', hn, fin D C h tk gg m' ys nw hgg F' N' o1 hn hC₀ hD₀ hCL hDL hCD offC hJn⟩
theorem my_ListComp' {elt target iter : Expr} {ifs : List Expr} {scope : Scope} {cl : List (Str × Addr)} {pos : Pos} {GB : Array GenState → Prop} {Q : Value → Shared → Prop}
    (_ : Fr h₀ L s.heap m) (hclos : closureFor scope env = pure cl) (hcell : ∀ y ∈ scope.names, y.2 ≠ .cell) (hkind : scope.kind = .function)
    (hnames : ∀ y ∈ scope.names, y.2 = .local → scope.names.lookup y.1 = some .local)
    (h : wpAny (model prog w) A (eval iter env) (fun xv s₁ => wpAny (model prog w) A (pyIter xv) (CompAt prog w A h₀ L m env target ifs elt scope cl GB
      (fun s₃ D h C => ∀ h', Heap.SameBut C h h' → Q (.ref D) { s₃ with heap := h' })) E s₁) E s)
    (hs : ∀ x, foldedSetIterable iter env x = pure x := by intro _; rfl) :
    wpAny (model prog w) A (eval (.ListComp elt [⟨target, iter, ifs, 0⟩] scope pos) env) Q E s := my_ListComp hclos hcell hkind hnames h hs
theorem my_Assign_ListComp {elt target iter : Expr} {ifs : List Expr} {y : Str} {py : Pos} {scope : Scope} {cl : List (Str × Addr)} {pos spos : Pos} {GB : Array GenState → Prop} {Q : Flow → Shared → Prop}
    (hsw : swapsWith (.ListComp elt [⟨target, iter, ifs, 0⟩] scope pos) (some (.Name y py)) spos.line env = pure true)
    (hclos : closureFor scope env = pure cl) (hcell : ∀ y ∈ scope.names, y.2 ≠ .cell) (hkind : scope.kind = .function)
    (hnames : ∀ y ∈ scope.names, y.2 = .local → scope.names.lookup y.1 = some .local)
    (h : wpAny (model prog w) A (eval iter env) (fun xv s₁ => wpAny (model prog w) A (pyIter xv) (CompAt prog w A h₀ L m env target ifs elt scope cl GB
      (fun s₃ D h C => wpAny (model prog w) A (storeName env y (.ref D)) (fun _ s₄ => (∃ m', s₄.heap.Ns C m') ∧ ∀ h', Heap.SameBut C s₄.heap h' → Q .next { s₄ with heap := h' }) E s₃)) E s₁) E s)
    (hs : ∀ x, foldedSetIterable iter env x = pure x := by intro _; rfl) :
    wpAny (model prog w) A (exec (.Assign [.Name y py] (.ListComp elt [⟨target, iter, ifs, 0⟩] scope pos) spos) env) Q E s := by
  rw [exec_Assign_Name_used _ _ _ _ hsw]
  refine wpAny_bind (wpAny_standAt (wpAny_bind ?_))
  show wpAny _ A (do let _ ← comprehension (.ListComp elt [⟨target, iter, ifs, 0⟩] scope pos) scope env _ (newList []) false (eval iter env) (some (assign (.Name y py) env))) _ _ s
  refine wpAny_bind (wpAny_mono (wpAny_comprehension_free (use := some (assign (.Name y py) env)) (Q := fun _ s' => Q .next s') rfl hs hclos hkind hnames
    (wpAny_mono h (fun xv s₁ h₁ => wpAny_mono h₁ (fun it s₂ h₂ => ?_) fun _ _ e => e) fun _ _ e => e)) (fun _ s' hq => wpAny_pure (wpAny_pure hq)) fun _ _ e => e)
  refine h₂ _ ?_
  intro hgb I fp n P St news J zq W hsz hIo hSt hst hfp F N hIL hI₀ off hJ turn fin
  clear h₂
  subst zq
  refine my_block J W hsz hIo (fun i h h' nw ys a b c d e => hSt ys i h h' nw a b c d e) hcell hkind hgb hst hfp F N hIL hI₀ off hJ turn ?_
  intro D C h tk gg m' ys nw hgg F' N' o1 hn hC₀ hD₀ hCL hDL hCD offC hJn
  show wpAny _ A (assign (.Name y py) env (.ref D)) _ _ _
  refine wpAny_assign_Name (wpAny_mono (fin D C h tk gg m' ys nw hgg F' N' o1 hn hC₀ hD₀ hCL hDL hCD offC hJn) (fun _ s₄ h₄ => ?_) fun _ _ e => e)
  show (let zG : Prop := _; zG)
  intro zG
  obtain ⟨⟨m₄, hn₄⟩, hq⟩ := h₄
  (try k_unmd); k_unfold
  exact ⟨m₄, hn₄, hq⟩
theorem fin_E' {D C : Nat} {h h' : Heap} {ys : List Value} {nw : List (Addr × Obj)}
    (F : Fr h₀ L h m) (N : News h₀ L h ((D, lst ys) :: nw)) (hC₀ : h₀.get? C = none) (hCL : C ≠ L) (hCD : C ≠ D) (offC : ∀ p ∈ nw, p.1 ≠ C) (hs : Heap.SameBut C h h') :
    Fr h₀ L h' m ∧ News h₀ L h' ((D, lst ys) :: nw) := ⟨F.change hs hCL hC₀, fun p hp => by
  refine ⟨hs.extBut _ _ ?_ (N p hp).1, (N p hp).2⟩
  rcases List.mem_cons.mp hp with rfl | hp
  · exact Ne.symm hCD
  · exact offC p hp⟩
theorem turn_name {elt : Expr} {x : Str} {px : Pos} {scope : Scope} {cl : List (Str × Addr)} {I C : Nat} {oI oC : Obj} {mC : Str → Option Value} {v : Value} {rest : List (Addr × Obj)} {G : Option Value → Shared → Prop}
    (hx : scope.names.lookup x = some .local) (hkind : scope.kind = .function) (F : Fr h₀ L s.heap m) (hoC : NsObj oC mC) (N : News h₀ L s.heap ((I, oI) :: (C, oC) :: rest)) (hIC : I ≠ C) (hr : ∀ p ∈ rest, p.1 ≠ C)
    (h : ∀ h' oC' mC', Fr h₀ L h' m → NsObj oC' mC' → mC' x = some v → News h₀ L h' ((I, oI) :: (C, oC') :: rest) → wpAny (model prog w) A (eval elt (compEnvC scope cl C env)) (fun y s₄ => G (some y) s₄) E { s with heap := h', toks := s.toks + 1 }) :
    TurnWp prog w A (.Name x px) [] elt (compEnvC scope cl C env) (.ref I) v G E s := by
  have zC := N (C, oC) (.tail _ (.head _))
  refine wpAny_pure (wpAny_assign_Name (wpAny_storeName_local (lookup_relabel_local hx) (hoC.ns zC.1) (fun h₂ hn₂ hs₂ => wpAny_tests_nil ?_) (by simp [compEnvC, relabel, hkind])))
  show (let zG : Prop := _; zG)
  intro zG
  obtain ⟨oC', heC, hoC'⟩ := ns_obj hn₂
  (try k_unmd); k_unfold
  rw [if_pos rfl]
  refine h h₂ oC' _ (F.change hs₂ zC.2.1 zC.2.2) hoC' (by simp) fun p hp => ?_
  rcases List.mem_cons.mp hp with rfl | hp
  · exact ⟨hs₂.extBut _ _ hIC (N _ (.head _)).1, (N _ (.head _)).2⟩
  rcases List.mem_cons.mp hp with rfl | hp
  · exact ⟨heC, zC.2⟩
  · exact ⟨hs₂.extBut _ _ (hr p hp) (N p (.tail _ (.tail _ hp))).1, (N p (.tail _ (.tail _ hp))).2⟩
theorem turn_name_if {elt c : Expr} {x : Str} {px : Pos} {scope : Scope} {cl : List (Str × Addr)} {I C : Nat} {oI oC : Obj} {mC : Str → Option Value} {v : Value} {rest : List (Addr × Obj)} {G : Option Value → Shared → Prop}
    (hx : scope.names.lookup x = some .local) (hkind : scope.kind = .function) (F : Fr h₀ L s.heap m) (hoC : NsObj oC mC) (N : News h₀ L s.heap ((I, oI) :: (C, oC) :: rest)) (hIC : I ≠ C) (hr : ∀ p ∈ rest, p.1 ≠ C)
    (h : ∀ h' oC' mC', Fr h₀ L h' m → NsObj oC' mC' → mC' x = some v → News h₀ L h' ((I, oI) :: (C, oC') :: rest) → wpAny (model prog w) A (isTrue c (compEnvC scope cl C env) (eval c (compEnvC scope cl C env)))
      (fun ok s₃ => if ok = true then wpAny (model prog w) A (eval elt (compEnvC scope cl C env)) (fun y s₄ => G (some y) s₄) E s₃ else G none s₃) E { s with heap := h', toks := s.toks + 1 }) :
    TurnWp prog w A (.Name x px) [c] elt (compEnvC scope cl C env) (.ref I) v G E s := by
  have zC := N (C, oC) (.tail _ (.head _))
  refine wpAny_pure (wpAny_assign_Name (wpAny_storeName_local (lookup_relabel_local hx) (hoC.ns zC.1) (fun h₂ hn₂ hs₂ => wpAny_tests_one ?_) (by simp [compEnvC, relabel, hkind])))
  show (let zG : Prop := _; zG)
  intro zG
  obtain ⟨oC', heC, hoC'⟩ := ns_obj hn₂
  (try k_unmd); k_unfold
  refine h h₂ oC' _ (F.change hs₂ zC.2.1 zC.2.2) hoC' (by simp) fun p hp => ?_
  rcases List.mem_cons.mp hp with rfl | hp
  · exact ⟨hs₂.extBut _ _ hIC (N _ (.head _)).1, (N _ (.head _)).2⟩
  rcases List.mem_cons.mp hp with rfl | hp
  · exact ⟨heC, zC.2⟩
  · exact ⟨hs₂.extBut _ _ (hr p hp) (N p (.tail _ (.tail _ hp))).1, (N p (.tail _ (.tail _ hp))).2⟩
noncomputable def ForEnd (GB : Array GenState → Prop) (h₀ : Heap) (L : Nat) (I : Nat) (oI : Obj) (J : (Str → Option Value) → List (Addr × Obj) → Prop) (s₂ : Shared) (Q : Flow → Shared → Prop) (f : Flow) (s' : Shared) : Prop :=
  match f with
  | .ret v => Q (.ret v) s'
  | .brk => Q .next s'
  | _ => ∀ zG : Prop, (∀ h' tk' gg m' nw, s' = { s₂ with heap := h', toks := tk', gens := gg } → GB gg → Fr h₀ L h' m' → News h₀ L h' ((I, oI) :: nw) → (∀ p ∈ nw, p.1 ≠ I) → J m' nw → zG) → zG
noncomputable def ForAt (prog : Program) (w : World) (A : Around) (h₀ : Heap) (env : Env) (target : Expr) (body : List Stmt) (GB : Array GenState → Prop) (Q : Flow → Shared → Prop) (E : Value → Shared → Prop) (it : Value) (s₂ : Shared) : Prop :=
  ∀ zG : Prop, (GB s₂.gens → ∀ (I : Nat) (fp : List Nat) (n : Nat) (P : Nat → Value → Prop) (St : Nat → Heap → Prop) (m : Str → Option Value) (news : List (Addr × Obj)) (J : Nat → (Str → Option Value) → List (Addr × Obj) → Prop), (it = .ref I) → (Walks prog w A I fp [I] n P St) → ((∀ i h, St i h → ∃ o, h.get? I = some o)) → ((∀ m', Stable h₀ env.locals I St (fun i nw => J i m' nw))) → (St 0 s₂.heap) → (Fr h₀ env.locals s₂.heap m) → (News h₀ env.locals s₂.heap news) → (env.locals ≠ I) → (h₀.get? I = none) → ((∀ p ∈ news, p.1 ≠ I)) → (J 0 m news) → ((∀ i v m' nw oI h tk gg, GB gg → i < n → P i v → J i m' nw → Fr h₀ env.locals h m' → News h₀ env.locals h ((I, oI) :: nw) → (∀ p ∈ nw, p.1 ≠ I) → St (i + 1) h → wpAny (model prog w) A (letOwnedTupleGo target (.ref I) v) (fun _ s₃ => wpAny (model prog w) A (assign target env v) (fun _ s₄ => wpAny (model prog w) A (execs body env) (ForEnd GB h₀ env.locals I oI (J (i + 1)) s₂ Q) E s₄) E s₃) E { s₂ with heap := h, toks := tk, gens := gg })) → ((∀ h tk gg m' nw, GB gg → Fr h₀ env.locals h m' → News h₀ env.locals h nw → J n m' nw → Q .next { s₂ with heap := h, toks := tk, gens := gg })) → zG) → zG
theorem my_For {target iter : Expr} {body : List Stmt} {pos : Pos} {GB : Array GenState → Prop} {Q : Flow → Shared → Prop}
    (h : wpAny (model prog w) A (eval iter env) (fun xv s₁ => wpAny (model prog w) A (pyIter xv) (ForAt prog w A h₀ env target body GB Q E) E s₁) E s)
    (hs : ∀ x, foldedSetIterable iter env x = pure x := by intro _; rfl)
    (hE : PassesOwn (model prog w) A env E := by passes_own) :
    wpAny (model prog w) A (exec (.For target iter body [] pos) env) Q E s := by
  refine wpAny_For (wpAny_mono h (fun xv s₁ h₁ => wpAny_mono h₁ (fun it s₂ h₂ => ?_) fun _ _ e => e) fun _ _ e => e) hs
  refine h₂ _ ?_
  intro hgb I fp n P St m news J zq W hIo hSt hst F N hLI hI₀ off hJ turn fin
  clear h₂
  subst zq
  refine (fun (zk : ∀ (BJ : Nat → Shared → Prop), (∀ (k : Nat) (s' : Shared) (h' : Heap) (tk : Nat) (gg : Array GenState) (i : Nat) (m' : Str → Option Value) (nw : List (Addr × Obj)), (s' = { s₂ with heap := h', toks := tk, gens := gg }) → (GB gg) → (i ≤ n) → (k = n + 1 - i) → (St i h') → (Fr h₀ env.locals h' m') → (News h₀ env.locals h' nw) → ((∀ p ∈ nw, p.1 ≠ I)) → (J i m' nw) → BJ k s') → (∀ (k : Nat) (s' : Shared) (zG : Prop), (∀ (h' : Heap) (tk : Nat) (gg : Array GenState) (i : Nat) (m' : Str → Option Value) (nw : List (Addr × Obj)), (s' = { s₂ with heap := h', toks := tk, gens := gg }) → (GB gg) → (i ≤ n) → (k = n + 1 - i) → (St i h') → (Fr h₀ env.locals h' m') → (News h₀ env.locals h' nw) → ((∀ p ∈ nw, p.1 ≠ I)) → (J i m' nw) → zG) → BJ k s' → zG) → _) => zk (fun k s' => ∀ zG : Prop, (∀ (h' : Heap) (tk : Nat) (gg : Array GenState) (i : Nat) (m' : Str → Option Value) (nw : List (Addr × Obj)), (s' = { s₂ with heap := h', toks := tk, gens := gg }) → (GB gg) → (i ≤ n) → (k = n + 1 - i) → (St i h') → (Fr h₀ env.locals h' m') → (News h₀ env.locals h' nw) → ((∀ p ∈ nw, p.1 ≠ I)) → (J i m' nw) → zG) → zG) (fun k s' h' tk gg i m' nw zh0 zh1 zh2 zh3 zh4 zh5 zh6 zh7 zh8 _ zk => zk h' tk gg i m' nw zh0 zh1 zh2 zh3 zh4 zh5 zh6 zh7 zh8) (fun k s' zG zk zh => zh zG zk)) ?_; intro BJ BJmk BJel
  refine codeAny_forLoop_any BJ ?_ (n + 1) (BJmk _ _ s₂.heap s₂.toks s₂.gens 0 m news rfl hgb (Nat.zero_le _) rfl hst F N off hJ)
  intro k s' hB
  refine BJel _ _ _ ?_ hB
  clear hB
  rintro h' tk gg i m' nw rfl hgg hi rfl hst' F' N' off' hJ'
  by_cases hlt : i < n
  · refine W.item i _ _ _ hlt hst' fun v h₂ tk₂ hP hst₂ hk₂ => ?_
    obtain ⟨oI, eI⟩ := hIo _ _ hst₂
    have F₂ : Fr h₀ env.locals h₂ m' := fr_but F' hk₂ hLI hI₀
    have N₂ : News h₀ env.locals h₂ ((I, oI) :: nw) := fun p hp => by
      rcases List.mem_cons.mp hp with rfl | hp
      · exact ⟨eI, Ne.symm hLI, hI₀⟩
      · exact news_but N' hk₂ off' p hp
    refine wpAny_mono (wpAny_passesOwn hE (turn i v m' nw oI h₂ tk₂ gg hgg hlt hP hJ' F₂ N₂ off' hst₂)) (fun _ s₃ h₃ => wpAny_mono (wpAny_passesOwn hE h₃) (fun _ s₄ h₄ => wpAny_mono (wpAny_passesOwn hE h₄) (fun f s₅ h₅ => ?_) fun _ _ x => x) fun _ _ x => x) fun _ _ x => x
    have stp : (∀ zG : Prop, (∀ h' tk' gg m' nw, s₅ = { s₂ with heap := h', toks := tk', gens := gg } → GB gg → Fr h₀ env.locals h' m' → News h₀ env.locals h' ((I, oI) :: nw) → (∀ p ∈ nw, p.1 ≠ I) → J (i + 1) m' nw → zG) → zG) → ∃ k, k < n + 1 - i ∧ BJ k s₅ := by
      intro hT
      refine hT _ ?_
      rintro h₃ tk₃ gg₃ m₃ nw₃ rfl hgg₃ F₃ N₃ off₃ hJ₃
      have N₃' : News h₀ env.locals h₃ nw₃ := fun p hp => N₃ p (.tail _ hp)
      exact ⟨n + 1 - (i + 1), sub_step hlt, BJmk _ _ h₃ tk₃ gg₃ (i + 1) m₃ nw₃ rfl hgg₃ hlt rfl (hSt _ _ _ _ _ hst₂ (eI.trans (N₃ (I, oI) (.head _)).1.symm) F₃.keep N₃' hJ₃) F₃ N₃' off₃ hJ₃⟩
    cases f with
    | ret v => exact h₅
    | brk => exact h₅
    | next => exact stp h₅
    | cont => exact stp h₅
  · have e : n = i := by (first | decide | lia | omega)
    subst e
    refine W.done _ _ _ hst' fun h₂ tk₂ hk₂ => wpAny_execs_nil ?_
    exact fin h₂ tk₂ gg m' nw hgg (fr_but F' hk₂ hLI hI₀) (news_but N' hk₂ off') hJ'
theorem drop1 {news : List (Addr × Obj)} {h : Heap} {p : Addr × Obj} (N : News h₀ L h (p :: news)) : News h₀ L h news := fun q hq => N q (.tail _ hq)
noncomputable def IterOk (prog : Program) (w : World) (A : Around) (h₀ : Heap) (L : Nat) (m : Str → Option Value) (news : List (Addr × Obj)) (s₂ : Shared) (I : Nat) (fp : List Nat) (n : Nat) (P : Nat → Value → Prop) (St : Nat → Heap → Prop) : Prop :=
  (Walks prog w A I fp [I] n P St) ∧ (∀ i h, St i h → ∃ o, h.get? I = some o) ∧ (St 0 s₂.heap) ∧ (∀ b ∈ fp, b < s₂.heap.objs.size) ∧ (Fr h₀ L s₂.heap m) ∧ (News h₀ L s₂.heap news) ∧ (L ≠ I) ∧ (h₀.get? I = none) ∧ (∀ p ∈ news, p.1 ≠ I) ∧ (∀ p ∈ news, p.1 < I)
theorem IterOk.W {prog : Program} {w : World} {A : Around} {h₀ : Heap} {L : Nat} {m : Str → Option Value} {news : List (Addr × Obj)} {s₂ : Shared} {I : Nat} {fp : List Nat} {n : Nat} {P : Nat → Value → Prop} {St : Nat → Heap → Prop} (h : IterOk prog w A h₀ L m news s₂ I fp n P St ) : Walks prog w A I fp [I] n P St := h.1
theorem IterOk.io {prog : Program} {w : World} {A : Around} {h₀ : Heap} {L : Nat} {m : Str → Option Value} {news : List (Addr × Obj)} {s₂ : Shared} {I : Nat} {fp : List Nat} {n : Nat} {P : Nat → Value → Prop} {St : Nat → Heap → Prop} (h : IterOk prog w A h₀ L m news s₂ I fp n P St ) : ∀ i h, St i h → ∃ o, h.get? I = some o := h.2.1
theorem IterOk.st {prog : Program} {w : World} {A : Around} {h₀ : Heap} {L : Nat} {m : Str → Option Value} {news : List (Addr × Obj)} {s₂ : Shared} {I : Nat} {fp : List Nat} {n : Nat} {P : Nat → Value → Prop} {St : Nat → Heap → Prop} (h : IterOk prog w A h₀ L m news s₂ I fp n P St ) : St 0 s₂.heap := h.2.2.1
theorem IterOk.lo {prog : Program} {w : World} {A : Around} {h₀ : Heap} {L : Nat} {m : Str → Option Value} {news : List (Addr × Obj)} {s₂ : Shared} {I : Nat} {fp : List Nat} {n : Nat} {P : Nat → Value → Prop} {St : Nat → Heap → Prop} (h : IterOk prog w A h₀ L m news s₂ I fp n P St ) : ∀ b ∈ fp, b < s₂.heap.objs.size := h.2.2.2.1
theorem IterOk.F {prog : Program} {w : World} {A : Around} {h₀ : Heap} {L : Nat} {m : Str → Option Value} {news : List (Addr × Obj)} {s₂ : Shared} {I : Nat} {fp : List Nat} {n : Nat} {P : Nat → Value → Prop} {St : Nat → Heap → Prop} (h : IterOk prog w A h₀ L m news s₂ I fp n P St ) : Fr h₀ L s₂.heap m := h.2.2.2.2.1
theorem IterOk.N {prog : Program} {w : World} {A : Around} {h₀ : Heap} {L : Nat} {m : Str → Option Value} {news : List (Addr × Obj)} {s₂ : Shared} {I : Nat} {fp : List Nat} {n : Nat} {P : Nat → Value → Prop} {St : Nat → Heap → Prop} (h : IterOk prog w A h₀ L m news s₂ I fp n P St ) : News h₀ L s₂.heap news := h.2.2.2.2.2.1
theorem IterOk.LI {prog : Program} {w : World} {A : Around} {h₀ : Heap} {L : Nat} {m : Str → Option Value} {news : List (Addr × Obj)} {s₂ : Shared} {I : Nat} {fp : List Nat} {n : Nat} {P : Nat → Value → Prop} {St : Nat → Heap → Prop} (h : IterOk prog w A h₀ L m news s₂ I fp n P St ) : L ≠ I := h.2.2.2.2.2.2.1
theorem IterOk.I0 {prog : Program} {w : World} {A : Around} {h₀ : Heap} {L : Nat} {m : Str → Option Value} {news : List (Addr × Obj)} {s₂ : Shared} {I : Nat} {fp : List Nat} {n : Nat} {P : Nat → Value → Prop} {St : Nat → Heap → Prop} (h : IterOk prog w A h₀ L m news s₂ I fp n P St ) : h₀.get? I = none := h.2.2.2.2.2.2.2.1
theorem IterOk.off {prog : Program} {w : World} {A : Around} {h₀ : Heap} {L : Nat} {m : Str → Option Value} {news : List (Addr × Obj)} {s₂ : Shared} {I : Nat} {fp : List Nat} {n : Nat} {P : Nat → Value → Prop} {St : Nat → Heap → Prop} (h : IterOk prog w A h₀ L m news s₂ I fp n P St ) : ∀ p ∈ news, p.1 ≠ I := h.2.2.2.2.2.2.2.2.1
theorem IterOk.up {prog : Program} {w : World} {A : Around} {h₀ : Heap} {L : Nat} {m : Str → Option Value} {news : List (Addr × Obj)} {s₂ : Shared} {I : Nat} {fp : List Nat} {n : Nat} {P : Nat → Value → Prop} {St : Nat → Heap → Prop} (h : IterOk prog w A h₀ L m news s₂ I fp n P St ) : ∀ p ∈ news, p.1 < I := h.2.2.2.2.2.2.2.2.2
theorem IterOk.of_push {news : List (Addr × Obj)} {fp : List Nat} {n : Nat} {P : Nat → Value → Prop} {St : Nat → Heap → Prop} {o : Obj}
    (W : Walks prog w A s.heap.objs.size fp [s.heap.objs.size] n P St) (io : ∀ i h, St i h → ∃ o, h.get? s.heap.objs.size = some o) (st : St 0 (s.heap.push o)) (lo : ∀ b ∈ fp, b ≤ s.heap.objs.size)
    (F : Fr h₀ L s.heap m) (N : News h₀ L s.heap news) : IterOk prog w A h₀ L m news { s with heap := s.heap.push o } s.heap.objs.size fp n P St :=
  ⟨W, io, st, fun b hb => by show b < (s.heap.push o).objs.size; rw [Heap.size_push]; exact Nat.lt_succ_of_le (lo b hb), F.push _, N.grown fun _ _ e => Heap.get?_push_of_some _ e, Nat.ne_of_lt F.ns.lt, next_is_new F,
    fun p hp => Nat.ne_of_lt (Heap.lt_size (N p hp).1), fun p hp => Heap.lt_size (N p hp).1⟩
noncomputable abbrev ListSt (ax : Nat) (its : Array Value) (I : Nat) : Nat → Heap → Prop := fun i h => h.IsListIter I ax i ∧ h.IsList ax its
theorem iter_list {ax : Nat} {its : Array Value} {news : List (Addr × Obj)} {K : Value → Shared → Prop} (hh : A.handled = none) (hl : s.heap.IsList ax its) (F : Fr h₀ L s.heap m) (N : News h₀ L s.heap news)
    (k : ∀ (I : Nat) h, ax < I → IterOk prog w A h₀ L m news { s with heap := h } I [I, ax] its.size (fun i v => its[i]? = some v) (ListSt ax its I) → K (.ref I) { s with heap := h }) : wpAny (model prog w) A (pyIter (.ref ax)) K E s := by
  have hlt : ax < s.heap.objs.size := by obtain ⟨_, e, _⟩ := hl; exact Heap.lt_size e
  refine wpAny_pyIter_list hl (k s.heap.objs.size _ hlt (IterOk.of_push (Walks.list hh s.heap.objs.size ax (Nat.ne_of_lt hlt) its) (fun i h st => by obtain ⟨o, e, _⟩ := st.1; exact ⟨o, e⟩) ⟨⟨_, Heap.get?_push_size _ rfl, rfl, rfl⟩, hl.push _⟩ (fun b hb => ?_) F N))
  rcases List.mem_cons.mp hb with rfl | hb
  · exact Nat.le_refl _
  · rw [List.mem_singleton.mp hb]; exact Nat.le_of_lt hlt
theorem stable_list {ax I : Nat} {its : Array Value} {J : Nat → List (Addr × Obj) → Prop} (hJ : ∀ i nw, J i nw → SrcAt h₀ ax its nw) : Stable h₀ L I (ListSt ax its I) J :=
  fun i h h' nw st e k N j => ⟨by obtain ⟨o, q, r⟩ := st.1; exact ⟨o, e ▸ q, r⟩, (hJ i nw j).list k N⟩
theorem stable_local {I : Nat} {St : Nat → Heap → Prop} {J : Nat → List (Addr × Obj) → Prop} (hs : ∀ i h h', St i h → h.get? I = h'.get? I → St i h') : Stable h₀ L I St J := fun i h h' _ st e _ _ _ => hs i h h' st e
theorem iter_str {x : Str} {t : Tok} {news : List (Addr × Obj)} {K : Value → Shared → Prop} (hh : A.handled = none) (F : Fr h₀ L s.heap m) (N : News h₀ L s.heap news)
    (k : ∀ (I : Nat) h St, (∀ i h h', St i h → h.get? I = h'.get? I → St i h') → IterOk prog w A h₀ L m news { s with heap := h } I [I] x.cps.size (SignAt x) St → K (.ref I) { s with heap := h }) : wpAny (model prog w) A (pyIter (.str x t)) K E s := by
  have lo : ∀ b ∈ [s.heap.objs.size], b ≤ s.heap.objs.size := fun b hb => by rw [List.mem_singleton.mp hb]; exact Nat.le_refl _
  cases ha : x.cps.all (· < 128)
  · refine wpAny_pyIter_wide ha (k _ _ _ (fun i h h' st e => ?_) (IterOk.of_push (Walks.strWide hh _ x t) (fun i h st => ?_) ⟨_, Heap.get?_push_size _ rfl, rfl, rfl⟩ lo F N))
    · obtain ⟨o, q, r⟩ := st; exact ⟨o, e ▸ q, r⟩
    · obtain ⟨o, q, r⟩ := st; exact ⟨o, q⟩
  · refine wpAny_pyIter_ascii ha (k _ _ _ (fun i h h' st e => ?_) (IterOk.of_push (Walks.strAscii hh _ x t) (fun i h st => ?_) ⟨_, Heap.get?_push_size _ rfl, rfl, rfl⟩ lo F N))
    · obtain ⟨o, q, r⟩ := st; exact ⟨o, e ▸ q, r⟩
    · obtain ⟨o, q, r⟩ := st; exact ⟨o, q⟩
theorem iter_range {r : Nat} {a : Int} {n : Nat} {t u v : Tok} {b : Int} {news : List (Addr × Obj)} {K : Value → Shared → Prop} (hh : A.handled = none) (hr : IsRange s.heap r a b 1 t u v) (hsm : Builtin.Range.small a b 1 = true) (hn : Builtin.Range.rangeSize a b 1 = ((n : Nat) : Int))
    (F : Fr h₀ L s.heap m) (N : News h₀ L s.heap news)
    (k : ∀ (I : Nat) h St, (∀ i h h', St i h → h.get? I = h'.get? I → St i h') → IterOk prog w A h₀ L m news { s with heap := h } I [I] n (fun i v => ∃ t, v = .int (a + (i : Int)) t) St → K (.ref I) { s with heap := h }) : wpAny (model prog w) A (pyIter (.ref r)) K E s := by
  have lo : ∀ b ∈ [s.heap.objs.size], b ≤ s.heap.objs.size := fun b hb => by rw [List.mem_singleton.mp hb]; exact Nat.le_refl _
  refine wpAny_pyIter_range hr hsm (k _ _ _ (fun i h h' st e => ?_) (IterOk.of_push (range_walks hh a n) (fun i h st => ⟨_, st⟩) (by show IsRangeIter _ _ _ _ _; rw [hn]; simpa using Heap.get?_push_size _ rfl) lo F N))
  have st' : h.get? s.heap.objs.size = some _ := st
  show h'.get? s.heap.objs.size = some _
  rw [← e, st']
theorem iter_bytes {b : Array UInt8} {tb : Tok} {news : List (Addr × Obj)} {K : Value → Shared → Prop} (hh : A.handled = none) (F : Fr h₀ L s.heap m) (N : News h₀ L s.heap news)
    (k : ∀ (I : Nat) h St, (∀ i h h', St i h → h.get? I = h'.get? I → St i h') → IterOk prog w A h₀ L m news { s with heap := h } I [I] b.size (fun i v => ∃ c u, b[i]? = some c ∧ v = .int (c.toNat : Int) u) St → K (.ref I) { s with heap := h }) : wpAny (model prog w) A (pyIter (.bytes b tb)) K E s := by
  have lo : ∀ b ∈ [s.heap.objs.size], b ≤ s.heap.objs.size := fun b hb => by rw [List.mem_singleton.mp hb]; exact Nat.le_refl _
  refine KBw.pyIter_bytes (k _ _ _ (fun i h h' st e => ?_) (IterOk.of_push (KBw.walks hh _ b tb) (fun i h st => ?_) ⟨_, Heap.get?_push_size _ rfl, rfl, rfl⟩ lo F N))
  · obtain ⟨o, q, r⟩ := st; exact ⟨o, e ▸ q, r⟩
  · obtain ⟨o, q, r⟩ := st; exact ⟨o, q⟩
theorem compAt_of {target elt : Expr} {ifs : List Expr} {scope : Scope} {cl : List (Str × Addr)} {GB : Array GenState → Prop} {FQ : Shared → Nat → Heap → Nat → Prop} {s₂ : Shared} {I : Nat} {fp : List Nat} {n : Nat} {P : Nat → Value → Prop} {St : Nat → Heap → Prop} {news : List (Addr × Obj)}
    (J : Nat → List Value → List (Addr × Obj) → Prop) (hg : GB s₂.gens) (K : IterOk prog w A h₀ L m news s₂ I fp n P St) (hsz : n ≤ sizeLine) (hS : ∀ ys, Stable h₀ L I St (fun i nw => J i ys nw)) (hJ : J 0 [] news)
    (turn : ∀ i v ys nw oI (C : Nat) oC (D : Nat) mC h tk gg (E' : Value → Shared → Prop), GB gg → i < n → P i v → J i ys nw → NsObj oC mC → Fr h₀ L h m → News h₀ L h ((I, oI) :: (C, oC) :: (D, lst ys) :: nw) → Off3 I C D nw → (I ≠ C ∧ I ≠ D ∧ C ≠ D) → St (i + 1) h →
      TurnWp prog w A target ifs elt (compEnvC scope cl C env) (.ref I) v (TurnEnd GB h₀ L m s₂ I oI C D ys (J (i + 1))) E' { s₂ with heap := h, toks := tk, gens := gg })
    (fin : ∀ (D C : Nat) h tk gg m' ys nw, GB gg → Fr h₀ L h m → News h₀ L h ((D, lst ys) :: nw) → Off1 D nw → h.Ns C m' → h₀.get? C = none → h₀.get? D = none → C ≠ L → D ≠ L → C ≠ D → (∀ p ∈ nw, p.1 ≠ C) → J n ys nw → FQ { s₂ with heap := h, toks := tk, gens := gg } D h C) :
    CompAt prog w A h₀ L m env target ifs elt scope cl GB FQ (.ref I) s₂ :=
  fun _ zk => zk hg I fp n P St news J rfl K.W hsz K.io hS K.st K.lo K.F K.N K.LI K.I0 K.off hJ turn fin
theorem forAt_of {target : Expr} {body : List Stmt} {GB : Array GenState → Prop} {Q : Flow → Shared → Prop} {s₂ : Shared} {I : Nat} {fp : List Nat} {n : Nat} {P : Nat → Value → Prop} {St : Nat → Heap → Prop} {news : List (Addr × Obj)}
    (J : Nat → (Str → Option Value) → List (Addr × Obj) → Prop) (hg : GB s₂.gens) (K : IterOk prog w A h₀ env.locals m news s₂ I fp n P St) (hS : ∀ m', Stable h₀ env.locals I St (fun i nw => J i m' nw)) (hJ : J 0 m news)
    (turn : ∀ i v m' nw oI h tk gg, GB gg → i < n → P i v → J i m' nw → Fr h₀ env.locals h m' → News h₀ env.locals h ((I, oI) :: nw) → (∀ p ∈ nw, p.1 ≠ I) → St (i + 1) h →
      wpAny (model prog w) A (letOwnedTupleGo target (.ref I) v) (fun _ s₃ => wpAny (model prog w) A (assign target env v) (fun _ s₄ => wpAny (model prog w) A (execs body env)
        (ForEnd GB h₀ env.locals I oI (J (i + 1)) s₂ Q) E s₄) E s₃) E { s₂ with heap := h, toks := tk, gens := gg })
    (fin : ∀ h tk gg m' nw, GB gg → Fr h₀ env.locals h m' → News h₀ env.locals h nw → J n m' nw → Q .next { s₂ with heap := h, toks := tk, gens := gg }) :
    ForAt prog w A h₀ env target body GB Q E (.ref I) s₂ :=
  fun _ zk => zk hg I fp n P St m news J rfl K.W K.io hS K.st K.F K.N K.LI K.I0 K.off hJ turn fin
noncomputable def WhlEnd (GB : Array GenState → Prop) (h₀ : Heap) (L : Nat) (s : Shared) (J : Nat → (Str → Option Value) → List (Addr × Obj) → Prop) (Q : Flow → Shared → Prop) (n : Nat) (f : Flow) (s₃ : Shared) : Prop :=
  match f with
  | .next | .cont => ∀ zG : Prop, (∀ h' tk gg m₂ nw n', s₃ = { s with heap := h', toks := tk, gens := gg } → GB gg → Fr h₀ L h' m₂ → News h₀ L h' nw → n' < n → J n' m₂ nw → zG) → zG
  | .brk => Q .next s₃
  | .ret v => Q (.ret v) s₃
theorem my_While {test : Expr} {body : List Stmt} {pos : Pos} {Q : Flow → Shared → Prop} {news : List (Addr × Obj)} (GB : Array GenState → Prop) (J : Nat → (Str → Option Value) → List (Addr × Obj) → Prop) (n₀ : Nat)
    (hg : GB s.gens) (F : Fr h₀ L s.heap m) (N : News h₀ L s.heap news) (hJ : J n₀ m news)
    (turn : ∀ n m₁ nw h₁ tk₁ gg, GB gg → Fr h₀ L h₁ m₁ → News h₀ L h₁ nw → J n m₁ nw →
      wpAny (model prog w) A (isTrue test env (eval test env)) (fun b s₂ =>
        if b = true then wpAny (model prog w) A (execs body env) (WhlEnd GB h₀ L s J Q n) E s₂ else Q .next s₂) E { s with heap := h₁, toks := tk₁, gens := gg })
    (hE : PassesOwn (model prog w) A env E := by passes_own) :
    wpAny (model prog w) A (exec (.While test body [] pos) env) Q E s := by
  refine wpAny_While (codeAny_whileLoop (fun n s' => ∃ h₁ tk₁ gg m₁ nw, s' = { s with heap := h₁, toks := tk₁, gens := gg } ∧ GB gg ∧ Fr h₀ L h₁ m₁ ∧ News h₀ L h₁ nw ∧ J n m₁ nw) ?_ n₀ ⟨s.heap, s.toks, s.gens, m, news, rfl, hg, F, N, hJ⟩)
  intro n s' hI
  show (let zG : Prop := _; zG)
  intro zG
  obtain ⟨h₁, tk₁, gg, m₁, nw, zq, hgg, F₁, N₁, J₁⟩ := hI
  (try k_unmd); k_unfold
  subst zq
  refine wpAny_mono (turn n m₁ nw h₁ tk₁ gg hgg F₁ N₁ J₁) (fun b s₂ h₂ => ?_) hE
  by_cases hb : b = true
  · refine (if_pos hb).mpr ?_
    refine wpAny_mono ((if_pos hb).mp h₂) (fun f s₃ h₃ => ?_) hE
    revert h₃
    have go : (∀ zG : Prop, (∀ h' tk' gg m' nw n', s₃ = { s with heap := h', toks := tk', gens := gg } → GB gg → Fr h₀ L h' m' → News h₀ L h' nw → n' < n → J n' m' nw → zG) → zG) → ∃ n', n' < n ∧ ∃ h₁ tk₁ gg m₁ nw, s₃ = { s with heap := h₁, toks := tk₁, gens := gg } ∧ GB gg ∧ Fr h₀ L h₁ m₁ ∧ News h₀ L h₁ nw ∧ J n' m₁ nw :=
      fun h₃ => h₃ _ fun h' tk gg' m₂ nw₂ n' e hg' F₂ N₂ hn J₂ => ⟨n', hn, h', tk, gg', m₂, nw₂, e, hg', F₂, N₂, J₂⟩
    exact Flow.casesOn f go id go fun _ => id
  · exact (if_neg hb).mpr (wpAny_execs_nil ((if_neg hb).mp h₂))
theorem ins0 {D : Addr} {news news' : List (Addr × Obj)} {vs : List Value} {e : Nat} {u : Tok} {y : Value} {Q : Value → Shared → Prop} (F : Fr h₀ L s.heap m) (N : News h₀ L s.heap news)
    (U : Upd D (W.listOf vs.toArray e) (W.listOf (y :: vs).toArray (e + 1)) news news') (hz : vs.length ≤ sizeLine) (h : ∀ h', Fr h₀ L h' m → News h₀ L h' news' → Q .none { s with heap := h' }) :
    wpAny (model prog w) A (call (.builtin "list.insert") [.ref D, .int 0 u, y]) Q E s :=
  kl_insert (its := vs.toArray) (l := y :: vs) F N rfl (by simp [kl_ins]) U (by simpa using hz) h
end
end Mine.Internal
end PartML
section PartP2
open PySem PySem.W PyProof.Rows
namespace Mine.Internal
noncomputable def primesN : List Nat := [2, 3, 5, 7, 11, 13, 17, 19, 23, 29, 31, 37, 41, 43, 47, 53, 59, 61, 67]
noncomputable def primesI : List Int := [2, 3, 5, 7, 11, 13, 17, 19, 23, 29, 31, 37, 41, 43, 47, 53, 59, 61, 67]
noncomputable def wsOf (d : Nat) : List Nat := match d / 3 % 4 with | 0 => [32] | 1 => [10] | 2 => [9] | _ => [13]
noncomputable def bare (d : Nat) (l : List Nat) : List Nat := if d % 3 = 1 then 34 :: (l ++ [34]) else if d % 3 = 2 then l.flatMap (fun c => [92, c]) else l
noncomputable def spelled (d : Nat) (l : List Nat) : List Nat := bare d l ++ wsOf d
noncomputable def NI (l : List Nat) : List Int := l.map fun n : Nat => (n : Int)
noncomputable def kids (lk : List (Nat × Nat)) (here : Nat) : List Nat := (lk.filter fun p => p.2 == here).map (·.1)
noncomputable def elders (lk : List (Nat × Nat)) (here : Nat) : List Nat := (lk.filter fun p => p.1 == here).map (·.2)
noncomputable def beside (lk : List (Nat × Nat)) (here : Nat) : List Nat := kids lk here ++ elders lk here
theorem kids_yes {lk : List (Nat × Nat)} {i : Nat} {p : Nat × Nat} {here : Nat} (h : lk[i]? = some p) (e : p.2 = here) : kids (lk.take (i + 1)) here = kids (lk.take i) here ++ [p.1] := by
  unfold kids; rw [List.take_add_one, h]; simp [e]
theorem kids_no {lk : List (Nat × Nat)} {i : Nat} {p : Nat × Nat} {here : Nat} (h : lk[i]? = some p) (e : p.2 ≠ here) : kids (lk.take (i + 1)) here = kids (lk.take i) here := by
  unfold kids; rw [List.take_add_one, h]; simp [e]
theorem elders_yes {lk : List (Nat × Nat)} {i : Nat} {p : Nat × Nat} {here : Nat} (h : lk[i]? = some p) (e : p.1 = here) : elders (lk.take (i + 1)) here = elders (lk.take i) here ++ [p.2] := by
  unfold elders; rw [List.take_add_one, h]; simp [e]
theorem elders_no {lk : List (Nat × Nat)} {i : Nat} {p : Nat × Nat} {here : Nat} (h : lk[i]? = some p) (e : p.1 ≠ here) : elders (lk.take (i + 1)) here = elders (lk.take i) here := by
  unfold elders; rw [List.take_add_one, h]; simp [e]
theorem NI_app (a b : List Nat) : NI (a ++ b) = NI a ++ NI b := by simp [NI]
noncomputable def valL (l : List Nat) : Nat := l.foldl (fun n c => n * 16 + c - 65) 0
noncomputable def facW (p k : Nat) : Nat → Nat → Nat × List Nat
  | 0, q => (q, [])
  | f + 1, q => if q % p = 0 then ((facW p k f (q / p)).1, k :: (facW p k f (q / p)).2) else (q, [])
theorem facW_c {p k f q : Nat} : facW p k (f + 1) q = if q % p = 0 then ((facW p k f (q / p)).1, k :: (facW p k f (q / p)).2) else (q, []) := rfl
noncomputable def fac : List Nat → Nat → Nat → List Nat
  | [], _, _ => []
  | p :: ps, k, q => if q < 2 then [] else (facW p k q q).2 ++ fac ps (k + 1) (facW p k q q).1
theorem fac_c {p : Nat} {ps : List Nat} {k q : Nat} : fac (p :: ps) k q = if q < 2 then [] else (facW p k q q).2 ++ fac ps (k + 1) (facW p k q q).1 := rfl
theorem fac_cons {ps : List Nat} {i p k q : Nat} (hp : ps[i]? = some p) (hq : ¬ q < 2) : fac (ps.drop i) k q = (facW p k q q).2 ++ fac (ps.drop (i + 1)) (k + 1) (facW p k q q).1 := by
  obtain ⟨hlt, he⟩ := List.getElem?_eq_some_iff.mp hp
  rw [List.drop_eq_getElem_cons hlt, he, fac_c, if_neg hq]
theorem fac_small {ps : List Nat} {k q : Nat} (hq : q < 2) : fac ps k q = [] := by
  cases ps with
  | nil => rfl
  | cons p ps => rw [fac_c, if_pos hq]
noncomputable def placesOf (n : Nat) : List Nat := fac primesN 1 n
noncomputable def bumpN (cs : List Nat) (i : Nat) (x : Int) : List Nat := cs.set (i % 6) (cs.getD (i % 6) 0 + (x.fmod 1000000).toNat)
noncomputable def cellsN (ns : List Int) (i : Nat) : List Nat := ((ns.take 60).take i).zipIdx.foldl (fun cs p => bumpN cs p.2 p.1) [37, 7, 9, 10, 11, 3124]
noncomputable def cellsOf (ns : List Int) : List Nat := cellsN ns 60
noncomputable def sizeOf' (ns : List Int) : Nat := 4 + min 2 ns.length
noncomputable def linkAt (cs : List Nat) (i : Nat) : Nat × Nat := (i + 2, 1 + cs.getD i 0 % (i + 1))
noncomputable def linksOf (cs : List Nat) (k : Nat) : List (Nat × Nat) := (List.range k).map (linkAt cs)
theorem bumpN_len (cs : List Nat) (i : Nat) (x : Int) : (bumpN cs i x).length = cs.length := by simp [bumpN]
theorem cellsN_len (ns : List Int) (i : Nat) : (cellsN ns i).length = 6 := by
  unfold cellsN
  have h : ∀ (l : List (Int × Nat)) (cs : List Nat), (l.foldl (fun cs p => bumpN cs p.2 p.1) cs).length = cs.length := by
    intro l
    induction l with
    | nil => intro cs; rfl
    | cons p r ih => intro cs; rw [List.foldl_cons, ih, bumpN_len]
  rw [h]; rfl
theorem cellsN_succ {ns : List Int} {i : Nat} {x : Int} (h : (ns.take 60)[i]? = some x) : cellsN ns (i + 1) = bumpN (cellsN ns i) i x := by
  have hlt : i < (ns.take 60).length := (List.getElem?_eq_some_iff.mp h).1
  unfold cellsN
  rw [List.take_add_one, h, List.zipIdx_append, List.foldl_append]
  show bumpN _ (0 + ((ns.take 60).take i).length) x = _
  rw [List.length_take, Nat.min_eq_left (Nat.le_of_lt hlt), Nat.zero_add]
theorem cellsN_all {ns : List Int} : cellsN ns (ns.take 60).length = cellsOf ns := by
  have e1 : (ns.take 60).take (ns.take 60).length = ns.take 60 := List.take_of_length_le (Nat.le_refl _)
  have e2 : (ns.take 60).take 60 = ns.take 60 := List.take_of_length_le (by rw [List.length_take]; (first | decide | lia | omega))
  unfold cellsOf cellsN
  rw [e1, e2]
theorem NI_len (l : List Nat) : (NI l).length = l.length := by simp [NI]
theorem NI_getD (l : List Nat) (k : Nat) : (NI l).getD k 0 = ((l.getD k 0 : Nat) : Int) := by
  simp only [NI, List.getD_eq_getElem?_getD, List.getElem?_map]
  cases l[k]? <;> rfl
theorem NI_bump (l : List Nat) (i : Nat) (x : Int) : (NI l).set (i % 6) ((NI l).getD (i % 6) 0 + x.fmod 1000000) = NI (bumpN l i x) := by
  rw [NI_getD]
  have hx : 0 ≤ x.fmod 1000000 := by rw [Int.fmod_eq_emod_of_nonneg _ (by (first | decide | lia | omega))]; (first | decide | lia | omega)
  unfold bumpN NI
  rw [List.map_set]
  congr 1
  (first | decide | lia | omega)
theorem linksOf_succ (cs : List Nat) (k : Nat) : linksOf cs (k + 1) = linksOf cs k ++ [linkAt cs k] := by
  unfold linksOf; rw [List.range_succ, List.map_append]; rfl
noncomputable def goalOf (cs : List Nat) (k : Nat) : Nat := 2 + cs.getD 5 0 / 1728 % k
noncomputable def wantedOf (cs : List Nat) : Nat := 1 + cs.getD 0 0 % 70
noncomputable def drawOf (cs : List Nat) : Nat := cs.getD 5 0
theorem primesI_get {i p : Nat} (h : primesN[i]? = some p) : primesI[i]? = some (p : Int) := by
  have e : primesI = primesN.map (fun p : Nat => (p : Int)) := by decide
  rw [e, List.getElem?_map, h]; rfl
end Mine.Internal
end PartP2
section PartM2
open PySem PySem.W PyProof.Rows PyProof.Rows.LCg
set_option maxHeartbeats 8000000
namespace Mine.Internal
noncomputable abbrev tup (vs : List Value) : Obj := { cls := .type "tuple", data := .seq vs.toArray }
theorem sq_quote : Str.ofString "\"" = S [34] := by decide +kernel
theorem sq_back : Str.ofString "\\" = S [92] := by decide +kernel
theorem sq_lt : Str.ofString "<" = S [60] := by decide +kernel
theorem sq_gt : Str.ofString ">" = S [62] := by decide +kernel
theorem sq_lts : Str.ofString "</" = S [60, 47] := by decide +kernel
theorem sq_nil : Str.ofString "" = S [] := by decide +kernel
theorem sq_nl : Str.ofString "\n" = S [10] := by decide +kernel
theorem S_len (l : List Nat) : (S l).length = l.length := by simp [S, Str.length]
section
variable {prog : Program} {w : World} {A : Around} {E : Value → Shared → Prop} {s : Shared} {h₀ : Heap} {L : Nat} {m : Str → Option Value} {env : Env}
theorem add_S {x y : Str} {a b : List Nat} {t u : Tok} {Q : Value → Shared → Prop} (hx : x = S a) (hy : y = S b) (hsz : a.length + b.length ≤ 16777216) (h : ∀ t' k, Q (.str (S (a ++ b)) t') { s with toks := k }) :
    wpAny (model prog w) A (binaryOp .Add (.str x t) (.str y u)) Q E s := by
  subst hx hy
  refine PyProof.Rows.add_str (fun t' k => ?_) (by rw [S_len, S_len, sizeLine_eq]; exact hsz)
  rw [S_append]; exact h t' k
theorem iadd_S {x y : Str} {a b : List Nat} {t u : Tok} {Q : Value → Shared → Prop} (hx : x = S a) (hy : y = S b) (hsz : a.length + b.length ≤ 16777216) (h : ∀ t' k, Q (.str (S (a ++ b)) t') { s with toks := k }) :
    wpAny (model prog w) A (inplaceOp .Add (.str x t) (.str y u)) Q E s := by
  subst hx hy
  refine PyProof.Rows.iadd_str (fun t' k => ?_) (by rw [S_len, S_len, sizeLine_eq]; exact hsz)
  rw [S_append]; exact h t' k
theorem turn_two {P : Shared → Prop} {x₁ x₂ : Str} {px₁ px₂ tp : Pos} {k} {scope : Scope} {cl : List (Str × Addr)} {I C t : Nat} {oI oC : Obj} {mC : Str → Option Value} {v₁ v₂ : Value} {rest : List (Addr × Obj)}
    (hh : A.handled = none) (hx₁ : scope.names.lookup x₁ = some .local) (hx₂ : scope.names.lookup x₂ = some .local) (hxx : x₁ ≠ x₂) (hkind : scope.kind = .function)
    (F : Fr h₀ L s.heap m) (hoC : NsObj oC mC) (N : News h₀ L s.heap ((I, oI) :: (C, oC) :: rest)) (hIC : I ≠ C) (hr : ∀ p ∈ rest, p.1 ≠ C)
    {l : Nat} {i : Nat} (hit : s.heap.IsListIter I l i) (ht : IsTup s.heap t #[v₁, v₂])
    (h : ∀ h' tk oC' mC', Fr h₀ L h' m → NsObj oC' mC' → mC' x₁ = some v₁ → mC' x₂ = some v₂ → News h₀ L h' ((I, oI) :: (C, oC') :: rest) → P { s with heap := h', toks := tk }) :
    wpAny (model prog w) A (letOwnedTupleGo (.Tuple [.Name x₁ px₁, .Name x₂ px₂] k tp) (.ref I) (.ref t)) (fun _ s₁ => wpAny (model prog w) A (assign (.Tuple [.Name x₁ px₁, .Name x₂ px₂] k tp) (compEnvC scope cl C env) (.ref t)) (fun _ s₂ => P s₂) E s₁) E s := by
  have zC := N (C, oC) (.tail _ (.head _))
  refine wpAny_letOwnedTupleGo_listiter hit ?_
  refine assign_Tuple_tuple hh ht rfl rfl fun h₅ he => ?_
  have he' : ∀ b o, s.heap.get? b = some o → h₅.get? b = some o := fun b o e => he b o (Nat.ne_of_lt (Heap.lt_size e)) e
  refine assignInOrder_cons (wpAny_assign_Name (wpAny_storeName_local (lookup_relabel_local hx₁) ((hoC.ns zC.1).at' fun o e => he' _ o e) (fun h₆ hn₆ hs₆ => ?_) (by simp [compEnvC, relabel, hkind])))
  refine assignInOrder_cons (wpAny_assign_Name (wpAny_storeName_local (lookup_relabel_local hx₂) hn₆ (fun h₃ hn₃ hs₃ => ?_) (by simp [compEnvC, relabel, hkind])))
  refine assignInOrder_nil ?_
  have old3 : ∀ b o, b ≠ C → s.heap.get? b = some o → h₃.get? b = some o := fun b o hb e => hs₃.extBut b o hb (hs₆.extBut b o hb (he' b o e))
  show (let zG : Prop := _; zG)
  intro zG
  obtain ⟨oC', heC, hoC'⟩ := ns_obj hn₃
  (try k_unmd); k_unfold
  refine h h₃ _ oC' _ (((F.keeps he').change hs₆ zC.2.1 zC.2.2).change hs₃ zC.2.1 zC.2.2) hoC' (by simp [hxx]) (by simp) fun p hp => ?_
  rcases List.mem_cons.mp hp with rfl | hp
  · exact ⟨old3 _ _ hIC (N _ (.head _)).1, (N _ (.head _)).2⟩
  rcases List.mem_cons.mp hp with rfl | hp
  · exact ⟨heC, zC.2⟩
  · exact ⟨old3 _ _ (hr p hp) (N p (.tail _ (.tail _ hp))).1, (N p (.tail _ (.tail _ hp))).2⟩
theorem turn_pair {elt : Expr} {x₁ x₂ : Str} {px₁ px₂ tp : Pos} {k} {scope : Scope} {cl : List (Str × Addr)} {I C t : Nat} {oI oC : Obj} {mC : Str → Option Value} {v₁ v₂ : Value} {rest : List (Addr × Obj)} {G : Option Value → Shared → Prop}
    (hh : A.handled = none) (hx₁ : scope.names.lookup x₁ = some .local) (hx₂ : scope.names.lookup x₂ = some .local) (hxx : x₁ ≠ x₂) (hkind : scope.kind = .function)
    (F : Fr h₀ L s.heap m) (hoC : NsObj oC mC) (N : News h₀ L s.heap ((I, oI) :: (C, oC) :: rest)) (hIC : I ≠ C) (hr : ∀ p ∈ rest, p.1 ≠ C)
    {l : Nat} {i : Nat} (hit : s.heap.IsListIter I l i) (ht : IsTup s.heap t #[v₁, v₂])
    (h : ∀ h' tk oC' mC', Fr h₀ L h' m → NsObj oC' mC' → mC' x₁ = some v₁ → mC' x₂ = some v₂ → News h₀ L h' ((I, oI) :: (C, oC') :: rest) → wpAny (model prog w) A (eval elt (compEnvC scope cl C env)) (fun y s₄ => G (some y) s₄) E { s with heap := h', toks := tk }) :
    TurnWp prog w A (.Tuple [.Name x₁ px₁, .Name x₂ px₂] k tp) [] elt (compEnvC scope cl C env) (.ref I) (.ref t) G E s :=
  turn_two hh hx₁ hx₂ hxx hkind F hoC N hIC hr hit ht fun h' tk oC' mC' F' o' e1 e2 N' => wpAny_tests_nil (by rw [if_pos rfl]; exact h h' tk oC' mC' F' o' e1 e2 N')
theorem turn_pair_if {elt c : Expr} {x₁ x₂ : Str} {px₁ px₂ tp : Pos} {k} {scope : Scope} {cl : List (Str × Addr)} {I C t : Nat} {oI oC : Obj} {mC : Str → Option Value} {v₁ v₂ : Value} {rest : List (Addr × Obj)} {G : Option Value → Shared → Prop}
    (hh : A.handled = none) (hx₁ : scope.names.lookup x₁ = some .local) (hx₂ : scope.names.lookup x₂ = some .local) (hxx : x₁ ≠ x₂) (hkind : scope.kind = .function)
    (F : Fr h₀ L s.heap m) (hoC : NsObj oC mC) (N : News h₀ L s.heap ((I, oI) :: (C, oC) :: rest)) (hIC : I ≠ C) (hr : ∀ p ∈ rest, p.1 ≠ C)
    {l : Nat} {i : Nat} (hit : s.heap.IsListIter I l i) (ht : IsTup s.heap t #[v₁, v₂])
    (h : ∀ h' tk oC' mC', Fr h₀ L h' m → NsObj oC' mC' → mC' x₁ = some v₁ → mC' x₂ = some v₂ → News h₀ L h' ((I, oI) :: (C, oC') :: rest) → wpAny (model prog w) A (isTrue c (compEnvC scope cl C env) (eval c (compEnvC scope cl C env)))
      (fun ok s₃ => if ok = true then wpAny (model prog w) A (eval elt (compEnvC scope cl C env)) (fun y s₄ => G (some y) s₄) E s₃ else G none s₃) E { s with heap := h', toks := tk }) :
    TurnWp prog w A (.Tuple [.Name x₁ px₁, .Name x₂ px₂] k tp) [c] elt (compEnvC scope cl C env) (.ref I) (.ref t) G E s :=
  turn_two hh hx₁ hx₂ hxx hkind F hoC N hIC hr hit ht fun h' tk oC' mC' F' o' e1 e2 N' => wpAny_tests_one (h h' tk oC' mC' F' o' e1 e2 N')
theorem len_tup {t : Nat} {vs : List Value} {news : List (Addr × Obj)} {Q : Value → Shared → Prop} (N : News h₀ L s.heap news) (hm : (t, tup vs) ∈ news) (hz : vs.length < 1000) (h : ∀ u k, Q (.int (vs.length : Nat) u) { s with toks := k }) :
    wpAny (model prog w) A (call (.builtin "len") [.ref t]) Q E s := by
  have ht : IsTup s.heap t vs.toArray := ⟨_, (N _ hm).1, rfl, _, rfl⟩
  refine len_tuple ht (by simp only [List.size_toArray]; (first | decide | lia | omega)) ?_
  simpa using h _ _
theorem item_tup {t k : Nat} {vs : List Value} {news : List (Addr × Obj)} {u : Tok} {x : Int} {v : Value} {value slice : Expr} {Q : Value → Shared → Prop} (N : News h₀ L s.heap news) (hm : (t, tup vs) ∈ news) (hx : x = (k : Nat)) (hk : vs[k]? = some v) (hz : vs.length < 1000) (h : Q v s)
    (hs : subscripted slice false (.ref t) (.int x u) = operate [.ref t, .int x u] (getItem (.ref t) (.int x u)) := by with_unfolding_all rfl)
    (hq : ∀ r, letTemporaryGo value (.ref t) r = pure () := by intro _; with_unfolding_all rfl) :
    wpAny (model prog w) A (subscriptTail value slice (.ref t) (.int x u)) Q E s := by
  subst hx
  have ht : IsTup s.heap t vs.toArray := ⟨_, (N _ hm).1, rfl, _, rfl⟩
  have hlt : k < vs.length := (List.getElem?_eq_some_iff.mp hk).1
  refine item_tupleL (j := k) (x := v) ht (by (first | decide | lia | omega)) (by (first | decide | lia | omega)) ?_ hk h hs hq
  have h1 : (0 : Int) ≤ (k : Int) := by (first | decide | lia | omega)
  have h2 : (k : Int) < (vs.length : Int) := by (first | decide | lia | omega)
  have h3 : ¬ ((k : Int) < 0) := by (first | decide | lia | omega)
  unfold seqIndex?
  simp only [h3, if_false]
  simp [hlt]
theorem int_get {vs : List Value} {ns : List Int} (h : IntsAre vs ns) {k : Nat} {n : Int} (hk : ns[k]? = some n) : ∃ t, vs[k]? = some (.int n t) := h.get k n hk
theorem call_enum_led {α : Type} {K : ItemKind α} {as : List α} {l : Nat} {vs : List Value} {e0 : Nat} {news : List (Addr × Obj)} {Q : Value → Shared → Prop} (hh : A.handled = none) (hi : AreOf K vs as)
    (F : Fr h₀ L s.heap m) (N : News h₀ L s.heap ((l, W.listOf vs.toArray e0) :: news)) (hoff : ∀ p ∈ news, p.1 < l)
    (h : ∀ h' e, Fr h₀ L h' m → News h₀ L h' news → PairSrcL prog w A E h₀ L K as (.ref e) { s with heap := h' } m news → Q (.ref e) { s with heap := h' }) :
    wpAny (model prog w) A (call (.type "enumerate") [.ref l]) Q E s := by
  have zl := N _ (.head _)
  have hls : s.heap.IsList l vs.toArray := ⟨_, zl.1, rfl, _, rfl⟩
  have hl2 : l < s.heap.objs.size := Heap.lt_size zl.1
  have hLs : L < s.heap.objs.size := F.ns.lt
  have hab : h₀.objs.size ≤ L := F.above
  refine call_enumerate_list hls fun h' he hit hsz hk => ?_
  have F' : Fr h₀ L h' m := F.keeps hk
  have N' : News h₀ L h' news := fun p hp => ⟨hk _ _ (N p (.tail _ hp)).1, (N p (.tail _ hp)).2⟩
  refine h h' _ F' N' fun env hL => ?_
  subst hL
  refine enumSrc (Draws.list (A := A.in1) hh s.heap.objs.size l (Nat.ne_of_lt hl2) vs.toArray) he ⟨hit, hls.at fun o e => hk l o e⟩ (Nat.succ_ne_self _) ?_ (by simp) ?_
    (Heap.get?_none_of_le (Nat.le_trans hab (Nat.le_of_lt (Nat.lt_succ_of_lt hLs)))) (Heap.get?_none_of_le (Nat.le_trans hab (Nat.le_of_lt hLs))) ?_ (by simp [hi.length]) (fun i x hx => hi.get i x (by simpa using hx)) F' N'
  · intro hm
    rcases List.mem_cons.mp hm with e | hm
    · exact Nat.succ_ne_self _ e
    · exact Nat.ne_of_gt (Nat.lt_succ_of_lt hl2) (List.mem_singleton.mp hm)
  · intro hm
    rcases List.mem_cons.mp hm with e | hm
    · exact Nat.ne_of_lt (Nat.lt_succ_of_lt hLs) e
    · rcases List.mem_cons.mp hm with e | hm
      · exact Nat.ne_of_lt hLs e
      · exact zl.2.1 (List.mem_singleton.mp hm).symm
  · intro b hb q hq e
    have hq1 : q.1 < s.heap.objs.size := Heap.lt_size (N q (.tail _ hq)).1
    rcases List.mem_cons.mp hb with e1 | hb
    · exact Nat.ne_of_gt (Nat.lt_succ_of_lt hq1) (e1.symm.trans e)
    · rcases List.mem_cons.mp hb with e1 | hb
      · exact Nat.ne_of_gt hq1 (e1.symm.trans e)
      · have e2 := List.mem_singleton.mp hb
        exact Nat.ne_of_lt (hoff q hq) (e.symm.trans e2)
theorem app_L {D : Nat} {vs : List Value} {e : Nat} {x : Value} {news news' : List (Addr × Obj)} {Q : Value → Shared → Prop} (F : Fr h₀ L s.heap m) (N : News h₀ L s.heap news)
    (U : Upd D (W.listOf vs.toArray e) (W.listOf (vs ++ [x]).toArray (e + 1)) news news') (hz : vs.length ≤ 10000) (h : ∀ h', Fr h₀ L h' m → News h₀ L h' news' → Q .none { s with heap := h' }) :
    wpAny (model prog w) A (call (.builtin "list.append") [.ref D, x]) Q E s := by
  have e1 : (vs ++ [x]).toArray = vs.toArray.push x := by simp
  rw [e1] at U
  exact append_K F N U h (by rw [List.size_toArray, sizeLine_eq]; (first | decide | lia | omega))
theorem forEnd_ret {GB : Array GenState → Prop} {I : Nat} {oI : Obj} {J : (Str → Option Value) → List (Addr × Obj) → Prop} {s₂ s' : Shared} {Q : Flow → Shared → Prop} {v : Value} (h : Q (.ret v) s') : ForEnd GB h₀ L I oI J s₂ Q (.ret v) s' := h
theorem upd_own {d : Nat} {o o' : Obj} {own l l' : List (Addr × Obj)} (h : ∀ p ∈ own, p.1 ≠ d) (u : Upd d o o' l l') : Upd d o o' (own ++ l) (own ++ l') := by
  induction own with
  | nil => exact u
  | cons p r ih => exact .tail (h p (.head _)) (ih fun q hq => h q (.tail _ hq))
noncomputable def LinksAt (news : List (Addr × Obj)) (vs : List Value) (ps : List (Nat × Nat)) : Prop :=
  A2 (fun v p => ∃ (t : Addr) (a b : Tok), v = .ref t ∧ (t, tup [.int (p.1 : Nat) a, .int (p.2 : Nat) b]) ∈ news) vs ps
theorem LinksAt.get {news : List (Addr × Obj)} {vs : List Value} {ps : List (Nat × Nat)} (h : LinksAt news vs ps) {i : Nat} {v : Value} (e : vs[i]? = some v) : ∃ p, ps[i]? = some p ∧ ∃ (t : Addr) (a b : Tok), v = .ref t ∧ (t, tup [.int (p.1 : Nat) a, .int (p.2 : Nat) b]) ∈ news := A2.get h e
theorem LinksAt.length {news : List (Addr × Obj)} {vs : List Value} {ps : List (Nat × Nat)} (h : LinksAt news vs ps) : vs.length = ps.length := A2.length h
theorem LinksAt.pick {news news' : List (Addr × Obj)} (hs : ∀ (t : Addr) (vs : List Value), (t, tup vs) ∈ news → (t, tup vs) ∈ news') {vs : List Value} {ps : List (Nat × Nat)} (h : LinksAt news vs ps) : LinksAt news' vs ps :=
  A2.mono (fun _ _ ⟨t, a, b, e, m⟩ => ⟨t, a, b, e, hs _ _ m⟩) h
theorem LinksAt.mono {news news' : List (Addr × Obj)} (hs : ∀ p ∈ news, p ∈ news') {vs : List Value} {ps : List (Nat × Nat)} (h : LinksAt news vs ps) : LinksAt news' vs ps := h.pick fun _ _ => hs _
noncomputable def PagesAt (news : List (Addr × Obj)) (vs : List Value) (ps : List (Nat × List Nat)) : Prop :=
  A2 (fun v p => ∃ (t : Addr) (a b : Tok), v = .ref t ∧ (t, tup [.int (p.1 : Nat) a, .str (S p.2) b]) ∈ news) vs ps
theorem PagesAt.get {news : List (Addr × Obj)} {vs : List Value} {ps : List (Nat × List Nat)} (h : PagesAt news vs ps) {i : Nat} {v : Value} (e : vs[i]? = some v) : ∃ p, ps[i]? = some p ∧ ∃ (t : Addr) (a b : Tok), v = .ref t ∧ (t, tup [.int (p.1 : Nat) a, .str (S p.2) b]) ∈ news := A2.get h e
theorem PagesAt.length {news : List (Addr × Obj)} {vs : List Value} {ps : List (Nat × List Nat)} (h : PagesAt news vs ps) : vs.length = ps.length := A2.length h
theorem PagesAt.mono {news news' : List (Addr × Obj)} (hs : ∀ p ∈ news, p ∈ news') {vs : List Value} {ps : List (Nat × List Nat)} (h : PagesAt news vs ps) : PagesAt news' vs ps :=
  A2.mono (fun _ _ ⟨t, a, b, e, m⟩ => ⟨t, a, b, e, hs _ m⟩) h
theorem PagesAt.append {news : List (Addr × Obj)} {vs ws : List Value} {ps qs : List (Nat × List Nat)} (h : PagesAt news vs ps) (k : PagesAt news ws qs) : PagesAt news (vs ++ ws) (ps ++ qs) := A2.app h k
theorem ints_app {vs ws : List Value} {xs ys : List Int} (h : IntsAre vs xs) (k : IntsAre ws ys) : IntsAre (vs ++ ws) (xs ++ ys) := by
  induction h with
  | nil => exact k
  | cons y t _ ih => exact .cons y t ih
theorem news_sub {news news' : List (Addr × Obj)} {h : Heap} (N : News h₀ L h news) (hs : ∀ p ∈ news', p ∈ news) : News h₀ L h news' := fun p hp => N p (hs p hp)
theorem tup2 {news : List (Addr × Obj)} {h : Heap} {t : Addr} {x y : Value} (N : News h₀ L h news) (hm : (t, tup [x, y]) ∈ news) : IsTup h t #[x, y] := ⟨_, (N _ hm).1, rfl, _, rfl⟩
theorem my_Assign_ListComp' {elt target iter : Expr} {ifs : List Expr} {y : Str} {py : Pos} {scope : Scope} {cl : List (Str × Addr)} {pos spos : Pos} {GB : Array GenState → Prop} {Q : Flow → Shared → Prop}
    (_ : Fr h₀ L s.heap m) (hsw : swapsWith (.ListComp elt [⟨target, iter, ifs, 0⟩] scope pos) (some (.Name y py)) spos.line env = pure true)
    (hclos : closureFor scope env = pure cl) (hcell : ∀ y ∈ scope.names, y.2 ≠ .cell) (hkind : scope.kind = .function)
    (hnames : ∀ y ∈ scope.names, y.2 = .local → scope.names.lookup y.1 = some .local)
    (h : wpAny (model prog w) A (eval iter env) (fun xv s₁ => wpAny (model prog w) A (pyIter xv) (CompAt prog w A h₀ L m env target ifs elt scope cl GB
      (fun s₃ D h C => wpAny (model prog w) A (storeName env y (.ref D)) (fun _ s₄ => (∃ m', s₄.heap.Ns C m') ∧ ∀ h', Heap.SameBut C s₄.heap h' → Q .next { s₄ with heap := h' }) E s₃)) E s₁) E s)
    (hs : ∀ x, foldedSetIterable iter env x = pure x := by intro _; rfl) :
    wpAny (model prog w) A (exec (.Assign [.Name y py] (.ListComp elt [⟨target, iter, ifs, 0⟩] scope pos) spos) env) Q E s := my_Assign_ListComp hsw hclos hcell hkind hnames h hs
theorem LinksAt.append {news : List (Addr × Obj)} {vs ws : List Value} {ps qs : List (Nat × Nat)} (h : LinksAt news vs ps) (k : LinksAt news ws qs) : LinksAt news (vs ++ ws) (ps ++ qs) := A2.app h k
theorem fin_A2 {P : Unit → Shared → Prop} {y : Str} {D C : Nat} {m' : Str → Option Value} {ys : List Value} {nw : List (Addr × Obj)} (hL : env.locals = L)
    (hy : env.kindOf y = some .local) (hp : (env.scope.kind == .class || (env.scope.kind == .module && env.locals != env.globals)) = false)
    (F : Fr h₀ L s.heap m) (N : News h₀ L s.heap ((D, lst ys) :: nw)) (hn : s.heap.Ns C m') (hCL : C ≠ L)
    (k : ∀ h' tk, Fr h₀ L h' (fun z => if z = y then some (.ref D) else m z) → News h₀ L h' ((D, lst ys) :: nw) → h'.Ns C m' → P () { s with heap := h', toks := tk }) :
    wpAny (model prog w) A (storeName env y (.ref D)) P E s := by
  subst hL
  refine wpAny_storeName_local hy F.ns (fun h₂ hn₂ hs₂ => ?_) hp
  have hL₀ : h₀.get? env.locals = none := Heap.get?_none_of_le F.above
  have F₂ : Fr h₀ env.locals h₂ (fun z => if z = y then some (.ref D) else m z) := ⟨hn₂, fun b o e => hs₂.extBut b o (fun q => by rw [q, hL₀] at e; cases e) (F.keep b o e), F.above⟩
  exact k h₂ _ F₂ (fun p hp => ⟨hs₂.extBut _ _ (N p hp).2.1 (N p hp).1, (N p hp).2⟩) (hn.sameBut hs₂ hCL)
theorem look_list_iadd : typeLookup (.type "list") (dunderI "add") = pure (some (.builtin "list.__iadd__")) := by rw [typeLookup_type, builtinLookup_eq_fast]; kernel_rfl
theorem look_list_add : typeLookup (.type "list") (dunder "add") = pure (some (.builtin "list.__add__")) := by rw [typeLookup_type, builtinLookup_eq_fast]; kernel_rfl
theorem look_list_radd : typeLookup (.type "list") (dunderR "add") = pure none := by rw [typeLookup_type, builtinLookup_eq_fast]; kernel_rfl
theorem seq_iadd : isSeqSlot (some (.builtin "list.__iadd__")) = true := by decide +kernel
theorem seq_add : isSeqSlot (some (.builtin "list.__add__")) = true := by decide +kernel
theorem iadd_list {Da Db : Nat} {xs ys : List Value} {e e2 : Nat} {news : List (Addr × Obj)} {g : Obj → List (Addr × Obj)} {Q : Value → Shared → Prop} (F : Fr h₀ L s.heap m) (N : News h₀ L s.heap news)
    (U : UpdF Da (W.listOf xs.toArray e) news g) (hb : (Db, W.listOf ys.toArray e2) ∈ news) (hx : xs.length ≤ 100) (hy : ys.length ≤ 100)
    (h : ∀ h' e', Fr h₀ L h' m → News h₀ L h' (g (W.listOf (xs ++ ys).toArray e')) → Q (.ref Da) { s with heap := h' }) : wpAny (model prog w) A (inplaceOp .Add (.ref Da) (.ref Db)) Q E s := by
  show (let zG : Prop := _; zG)
  intro zG
  obtain ⟨pre, post, rfl, hg, ha, hc⟩ := U.split
  have z := N (Da, W.listOf xs.toArray e) (List.mem_append.mpr (.inr (.head _)))
  have zb := N _ hb
  have tA : s.TypeIs (.ref Da) "list" := ⟨_, z.1, rfl⟩
  have tB : s.TypeIs (.ref Db) "list" := ⟨_, zb.1, rfl⟩
  (try k_unmd); k_unfold
  unfold inplaceOp
  refine wpAny_holding ?_
  have hfi : fillsInplaceSlot (.type "list") "add" (Operator.Add == .Add) = pure false := by
    unfold fillsInplaceSlot
    show (typeLookup (.type "list") (dunderI "add") >>= fun fi => pure (fi.isSome && !isSeqSlot fi)) = pure false
    rw [look_list_iadd]
    simp only [pure_bind, seq_iadd]; rfl
  refine wpAny_bind (wpAny_typeOf tA (wpAny_bind (wpAny_of_eq hfi ?_)))
  show wpAny _ A (if false = true then _ else _) Q E s
  rw [if_neg Bool.false_ne_true]
  refine wpAny_bind (binaryOp1_none (nm := "add") tA tB (PySem.fillsNumberSlot_seq look_list_add seq_add look_list_radd rfl) ?_)
  refine wpAny_bind (wpAny_of_eq (PySem.seqSlot_of look_list_iadd seq_iadd) ?_)
  refine wpAny_bind (wpAny_rule ?_)
  refine call_meets PySem.F.slot_list_iadd ⟨_, z.1, rfl⟩ PySem.F.entry_list_iadd (PySem.F.args_list_iadd_2 _ _) (PySem.AutoSeq1.list___iadd___list_list_0 Da xs.toArray e Db ys.toArray e2 ?_ ?_ ?_) ⟨z.1, zb.1, ?_⟩
  · simp only [Builtin.List.listTooLong, List.size_toArray, sizeLine_eq]
    simp
    (first | decide | lia | omega)
  · rw [List.size_toArray, sizeLine_eq]; (first | decide | lia | omega)
  · rw [List.size_toArray, List.size_toArray, sizeLine_eq]; (first | decide | lia | omega)
  · obtain ⟨c2, hc2⟩ : ∃ c2, (s.heap.update Da (Obj.mapSeq fun x => x ++ ys.toArray)).get? Da = some (seqObj "list" (xs.toArray ++ ys.toArray) c2) := ⟨_, get?_update_seq z.1 (fun x => x ++ ys.toArray)⟩
    have s2 := Heap.SameBut.update s.heap Da (Obj.mapSeq fun x => x ++ ys.toArray)
    refine h _ c2 (F.change s2 z.2.1 z.2.2) ?_
    rw [hg]
    have e9 : (xs.toArray ++ ys.toArray) = (xs ++ ys).toArray := by simp
    rw [e9] at hc2
    exact news_set N ha hc s2 hc2
theorem off1_mem {D : Nat} : ∀ {l : List (Addr × Obj)}, Off1 D l → ∀ p ∈ l, p.1 ≠ D := by
  intro l
  induction l with
  | nil => intro _ p hp; cases hp
  | cons a r ih =>
    intro h p hp
    rcases List.mem_cons.mp hp with rfl | hp
    · exact h.1
    · exact ih h.2 p hp
theorem news_keep2 {x y : Addr × Obj} {l l' : List (Addr × Obj)} {h : Heap} (N : News h₀ L h (x :: y :: l)) (hs : ∀ p ∈ l', p ∈ l) : News h₀ L h (x :: l') := fun p hp => by
  rcases List.mem_cons.mp hp with rfl | hp
  · exact N _ (.head _)
  · exact N p (.tail _ (.tail _ (hs p hp)))
end
end Mine.Internal
end PartM2
section PartMS
open PySem PySem.W PyProof.Rows PyProof.Rows.LCg
set_option maxHeartbeats 8000000
namespace Mine.Internal
noncomputable def runO {α : Type} (n : Nat) (lt : Nat → Nat → Bool) : KasT α → Option α
  | .ret a => some a
  | .ask i j k => if i < n ∧ j < n then runO n lt (k (lt i j)) else none
theorem runO_n {α : Type} {n : Nat} {lt : Nat → Nat → Bool} {a : α} : runO n lt (.ret a) = some a := rfl
theorem runO_c {α : Type} {n : Nat} {lt : Nat → Nat → Bool} {i j : Nat} {k : Bool → KasT α} : runO n lt (.ask i j k) = if i < n ∧ j < n then runO n lt (k (lt i j)) else none := rfl
noncomputable def ltP (br : List (Nat × List Nat)) (i j : Nat) : Bool := decide ((br.getD i (0, [])).1 < (br.getD j (0, [])).1)
noncomputable def sameP (br : List (Nat × List Nat)) : Bool := br.all fun x => br.all fun y => x.1 != y.1 || x.2 == y.2
noncomputable def sortO (br : List (Nat × List Nat)) : Option (List (Nat × List Nat)) :=
  if br.length < 2 then some br else if sameP br = true ∧ br.length < 60 then
    match runO br.length (ltP br) (kas_sort br.length) with
    | some p => if p.toList.all (fun i => decide (i < br.length)) = true then some (p.toList.map fun i => br.getD i (0, [])) else none
    | none => none
  else none
section
variable {prog : Program} {w : World} {A : Around} {E : Value → Shared → Prop} {s : Shared} {h₀ : Heap} {L : Nat} {m : Str → Option Value} {env : Env}
theorem list_sort_small {a : Addr} {vs : List Value} {n : Nat} {P : PySem.Fin → Shared → Prop} (ho : s.heap.get? a = some (seqObj "list" vs.toArray n)) (h2' : vs.length < 2)
    (h : P (.done (.ret .none)) { s with heap := sortedHeap s.heap a vs ((arrOf (SortSt.mk' general' (vs.toArray.zip vs.toArray) #[] 7 none)).map (·.2)) }) :
    wpAny (model prog w) A (Builtin.«list.sort» ⟨[.ref a], []⟩) P E s := by
  rw [list_sort_plain]
  have ha : a < s.heap.objs.size := Heap.lt_size ho
  refine wpAny_bind (listItems_at ho rfl ?_)
  refine wpAny_bind (listUpdate_at ho rfl ?_ (by rw [List.size_toArray, sizeLine_eq]; (first | decide | lia | omega)) (Nat.zero_le _))
  obtain ⟨e1, ho1⟩ : ∃ e1, (s.heap.update a (Obj.mapSeq fun _ => #[])).get? a = some (seqObj "list" #[] e1) := ⟨_, get?_update_seq ho (fun _ => #[])⟩
  refine wpAny_bind (seqEpoch_at ho1 rfl ?_)
  refine wpAny_bind (wpAny_newTuple ?_ (by show vs.length ≤ _; rw [sizeLine_eq]; (first | decide | lia | omega)))
  refine wpAny_bind (wpAny_newList ?_ (Nat.zero_le _))
  refine wpAny_holding ?_
  have ho6 : (((s.heap.update a (Obj.mapSeq fun _ => #[])).push (seqObj "tuple" vs.toArray 0)).push (seqObj "list" #[] 0)).get? a = some (seqObj "list" #[] e1) := by
    rw [Heap.get?_push_ne _ _ _ (by rw [size_push', Heap.size_update]; exact Nat.ne_of_lt (Nat.lt_succ_of_lt ha)), Heap.get?_push_ne _ _ _ (by rw [Heap.size_update]; exact Nat.ne_of_lt ha)]
    exact ho1
  show wpAny (model prog w) A _ P E { s with heap := ((s.heap.update a (Obj.mapSeq fun _ => #[])).push (seqObj "tuple" vs.toArray 0)).push (seqObj "list" #[] 0) }
  dsimp only
  have h2 : vs.toArray.size < 2 := by simpa using h2'
  rw [if_pos h2, if_pos h2]
  refine wpAny_bind (wpAny_pure ?_)
  rw [StateT.run_pure]
  refine wpAny_bind (wpAny_pure ?_)
  dsimp only
  refine wpAny_bind (seqEpoch_at ho6 rfl ?_)
  refine wpAny_bind (listUpdate_at ho6 rfl ?_ (Nat.zero_le _) (by rw [Array.size_map]; show (pairsOf vs).size ≤ _; rw [pairsOf_size, sizeLine_eq]; (first | decide | lia | omega)))
  simp only [bne_self_eq_false, Bool.false_eq_true, if_false]
  exact wpAny_pure h
theorem sorted_small {l : Addr} {vs : List Value} {Q : Value → Shared → Prop} (hl : s.heap.IsList l vs.toArray) (h2 : vs.length < 2)
    (h : Q (.ref (s.heap.objs.size + 1)) { s with heap := sortedAll s.heap vs ((arrOf (SortSt.mk' general' (vs.toArray.zip vs.toArray) #[] 7 none)).map (·.2)) }) :
    wpAny (model prog w) A (call (.builtin "sorted") [.ref l]) Q E s := by
  refine Calls.call_function_entry kind_sorted plain_sorted entry_sorted (args_sorted1 _) ?_
  unfold Builtin.«sorted»
  refine wpAny_bind (m := checkCount "sorted" 1 1 _) (wpAny_pure ?_)
  refine wpAny_bind (collect_list hl ?_ (by rw [sizeLine_eq]; (first | decide | lia | omega)))
  refine wpAny_bind (wpAny_newList ?_ (by rw [sizeLine_eq]; (first | decide | lia | omega)))
  have hsz : ((s.heap.push (seqObj "list" #[] 0)).update s.heap.objs.size (Obj.mapSeq (· ++ vs.toArray))).objs.size = s.heap.objs.size + 1 := by
    rw [Heap.size_update, size_push']
  have hoL : (((s.heap.push (seqObj "list" #[] 0)).update s.heap.objs.size (Obj.mapSeq (· ++ vs.toArray))).push (seqObj "list" vs.toArray 0)).get? (s.heap.objs.size + 1) = some (seqObj "list" vs.toArray 0) := by
    rw [← hsz]; exact Heap.get?_push_size _ rfl
  show wpAny _ _ _ _ _ { s with heap := ((s.heap.push (seqObj "list" #[] 0)).update s.heap.objs.size (Obj.mapSeq (· ++ vs.toArray))).push (seqObj "list" vs.toArray 0) }
  rw [hsz]
  refine wpAny_bind (wpAny_holding (wpAny_call_entry slot_list_sort ⟨_, hoL, rfl⟩ entry_list_sort (list_sort_small hoL h2 ⟨_, rfl, ?_⟩) (args_list_sort _)))
  exact wpAny_pure ⟨_, rfl, h⟩
theorem run_wp {α : Type} {n : Nat} {lt : Nat → Nat → Bool} {cmp : Nat → Nat → (Bool → Shared → Prop) → Shared → Prop} {Q : α → Shared → Prop} (hc : ∀ i j C, i < n → j < n → C (lt i j) s → cmp i j C s) :
    ∀ (t : KasT α) {a : α}, runO n lt t = some a → Q a s → t.kasWp cmp Q s
  | .ret b, a, e, h => by
    have : b = a := by simpa [runO_n] using e
    subst this; exact h
  | .ask i j k, a, e, h => by
    rw [runO_c] at e
    split at e
    · rename_i hij
      exact hc i j _ hij.1 hij.2 (run_wp hc (k (lt i j)) e h)
    · cases e
theorem pages_getD {news : List (Addr × Obj)} {vs : List Value} {br : List (Nat × List Nat)} (P : PagesAt news vs br) {i : Nat} (hi : i < br.length) :
    ∃ (t : Addr) (a b : Tok), vs.getD i Value.none = .ref t ∧ (t, tup [.int ((br.getD i (0, [])).1 : Nat) a, .str (S (br.getD i (0, [])).2) b]) ∈ news := by
  have hv : i < vs.length := by rw [P.length]; exact hi
  show (let zG : Prop := _; zG)
  intro zG
  obtain ⟨p, hp, t, a, b, e, hm⟩ := P.get (List.getElem?_eq_getElem hv)
  (try k_unmd); k_unfold
  refine ⟨t, a, b, ?_, ?_⟩
  · rw [List.getD_eq_getElem?_getD, List.getElem?_eq_getElem hv]; exact e
  · rw [List.getD_eq_getElem?_getD, hp]; exact hm
theorem pages_pick {news : List (Addr × Obj)} {vs : List Value} {br : List (Nat × List Nat)} (P : PagesAt news vs br) (l : List Nat) (h : ∀ i ∈ l, i < br.length) : PagesAt news (l.map fun i => vs.getD i Value.none) (l.map fun i => br.getD i (0, [])) := by
  induction l with
  | nil => trivial
  | cons i r ih => exact ⟨pages_getD P (h i (.head _)), ih fun j hj => h j (.tail _ hj)⟩
theorem ask_pages {news : List (Addr × Obj)} {vs : List Value} {br : List (Nat × List Nat)} (N : News h₀ L s.heap news) (P : PagesAt news vs br) (hs : sameP br = true) {i j : Nat} {C : Bool → Shared → Prop} (hi : i < br.length) (hj : j < br.length)
    (h : C (ltP br i j) s) : kas_ask prog w A (tuples' true) vs i j C s := by
  show (let zG : Prop := _; zG)
  intro zG
  obtain ⟨t, a, b, e, hm⟩ := pages_getD P hi
  (try k_unmd); k_unfold
  show (let zG : Prop := _; zG)
  intro zG
  obtain ⟨t', a', b', e', hm'⟩ := pages_getD P hj
  (try k_unmd); k_unfold
  unfold kas_ask
  rw [e, e']
  refine kat_lt (N _ hm).1 rfl (N _ hm').1 rfl ?_
  have hd : decide (([Value.int ((br.getD i (0, [])).1 : Nat) a, .str (S (br.getD i (0, [])).2) b] : List Value).toArray.size < ([Value.int ((br.getD j (0, [])).1 : Nat) a', .str (S (br.getD j (0, [])).2) b'] : List Value).toArray.size) = false := by simp
  rw [hd]
  refine kat_cons (wpAny_eqBool_int ?_)
  have hlt : ltP br i j = decide (((br.getD i (0, [])).1 : Int) < ((br.getD j (0, [])).1 : Int)) := by
    unfold ltP
    by_cases q : (br.getD i (0, [])).1 < (br.getD j (0, [])).1
    · rw [decide_eq_true q, decide_eq_true (by (first | decide | lia | omega))]
    · rw [decide_eq_false q, decide_eq_false (by (first | decide | lia | omega))]
  by_cases q : (br.getD i (0, [])).1 = (br.getD j (0, [])).1
  · rw [show (((br.getD i (0, [])).1 : Int) == ((br.getD j (0, [])).1 : Int)) = true from by rw [q]; simp]
    have hp : (br.getD i (0, [])).2 = (br.getD j (0, [])).2 := by
      have h1 : br.getD i (0, []) ∈ br := by rw [List.getD_eq_getElem?_getD, List.getElem?_eq_getElem hi]; exact List.getElem_mem hi
      have h2 : br.getD j (0, []) ∈ br := by rw [List.getD_eq_getElem?_getD, List.getElem?_eq_getElem hj]; exact List.getElem_mem hj
      have h3 := List.all_eq_true.mp (List.all_eq_true.mp hs _ h1) _ h2
      have h4 : ((br.getD i (0, [])).1 != (br.getD j (0, [])).1) = false := by rw [q]; simp
      rw [h4] at h3
      simpa using h3
    refine kat_yes (kat_cons (wpAny_eqBool_str ?_))
    rw [hp, decide_eq_true rfl]
    refine kat_yes (kat_nil ?_)
    rw [hlt, q, decide_eq_false (by (first | decide | lia | omega))] at h
    exact h
  · rw [show (((br.getD i (0, [])).1 : Int) == ((br.getD j (0, [])).1 : Int)) = false from beq_eq_false_iff_ne.mpr (by (first | decide | lia | omega))]
    refine kat_no ?_
    show wpAny (model prog w) A (oneLt' true _ _) C _ s
    refine oneLt_int ?_
    rw [← hlt]
    exact h
theorem katTups_pages {news : List (Addr × Obj)} {h : Heap} (N : News h₀ L h news) : ∀ {vs : List Value} {br : List (Nat × List Nat)}, PagesAt news vs br → ∃ fs, KatTups h vs fs ∧ fs.length = vs.length ∧ ∀ v ∈ fs, ∃ n t, v = .int n t := by
  intro vs
  induction vs with
  | nil => intro br P; exact ⟨[], trivial, rfl, fun v hv => nomatch hv⟩
  | cons x r ih =>
    intro br P
    cases br with
    | nil => exact P.elim
    | cons p ps =>
      obtain ⟨⟨t, a, b, e, hm⟩, P2⟩ := P
      show (let zG : Prop := _; zG)
      intro zG
      obtain ⟨fs, k, hl, hf⟩ := ih P2
      subst e
      (try k_unmd); k_unfold
      refine ⟨.int (p.1 : Nat) a :: fs, KatTups.cons (N _ hm).1 rfl rfl rfl k, by simp [hl], ?_⟩
      intro v hv
      rcases List.mem_cons.mp hv with rfl | hv
      · exact ⟨_, _, rfl⟩
      · exact hf v hv
theorem sorted_pages {news : List (Addr × Obj)} {D : Nat} {e : Nat} {vs : List Value} {br out : List (Nat × List Nat)} {Q : Value → Shared → Prop} (F : Fr h₀ L s.heap m) (N : News h₀ L s.heap news) (hm : (D, W.listOf vs.toArray e) ∈ news) (P : PagesAt news vs br)
    (ho : sortO br = some out) (h : ∀ R e' ws h', Fr h₀ L h' m → News h₀ L h' ((R, W.listOf (List.toArray ws) e') :: news) → (∀ p ∈ news, p.1 < R) → PagesAt news ws out → Q (.ref R) { s with heap := h' }) :
    wpAny (model prog w) A (call (.builtin "sorted") [.ref D]) Q E s := by
  have hl : s.heap.IsList D vs.toArray := ⟨_, (N _ hm).1, rfl, _, rfl⟩
  have hlen := P.length
  unfold sortO at ho
  by_cases h2 : br.length < 2
  · rw [if_pos h2] at ho
    have : br = out := Option.some.inj ho
    subst this
    refine sorted_small hl (by (first | decide | lia | omega)) ?_
    have hout : (arrOf (SortSt.mk' general' (vs.toArray.zip vs.toArray) #[] 7 none)).map (·.2) = vs.toArray := by
      show (vs.toArray.zip vs.toArray).map (·.2) = vs.toArray
      apply Array.toList_inj.mp
      simp [List.map_snd_zip]
    rw [hout]
    have hk : ∀ b o, s.heap.get? b = some o → (sortedAll s.heap vs vs.toArray).get? b = some o := fun b o e => sortedAll_old e
    obtain ⟨e', he'⟩ := sortedAll_at s.heap vs vs.toArray
    have hLs : L < s.heap.objs.size := F.ns.lt
    have hR0 : h₀.get? (s.heap.objs.size + 1) = none := Heap.get?_none_of_le (Nat.le_trans F.above (Nat.le_of_lt (Nat.lt_succ_of_lt hLs)))
    refine h _ e' vs _ (F.keeps hk) (fun p hp => ?_) (fun p hp => Nat.lt_succ_of_lt (Heap.lt_size (N p hp).1)) P
    rcases List.mem_cons.mp hp with rfl | hp
    · exact ⟨he', Nat.ne_of_gt (Nat.lt_succ_of_lt hLs), hR0⟩
    · exact ⟨hk _ _ (N p hp).1, (N p hp).2⟩
  · rw [if_neg h2] at ho
    split at ho
    · rename_i hh
      obtain ⟨hs, h60⟩ := hh
      cases hr : runO br.length (ltP br) (kas_sort br.length) with
      | none => rw [hr] at ho; cases ho
      | some p =>
        rw [hr] at ho
        dsimp only at ho
        split at ho
        case isFalse => cases ho
        rename_i hall
        have hout : (p.toList.map fun i => br.getD i (0, [])) = out := Option.some.inj ho
        refine kat_sorted F N hl (by (first | decide | lia | omega)) (by (first | decide | lia | omega)) fun R e1 h' F' N' lR => ?_
        show (let zG : Prop := _; zG)
        intro zG
        obtain ⟨fs, kt, hfl, hfi⟩ := katTups_pages (drop1 N') P
        (try k_unmd); k_unfold
        refine kat_kind (T := .type "int") kt (by (first | decide | lia | omega)) (fun v hv => ?_) rfl ?_
        · obtain ⟨n, t, rfl⟩ := hfi v hv
          exact Looks.of_pure rfl
        show (kas_sort vs.length).kasWp (kas_ask prog w A.in1.in1 (tuples' true) vs) _ _
        rw [hlen]
        refine run_wp (fun i j C hi hj hC => ask_pages (s := { s with heap := h' }) (drop1 N') P hs hi hj hC) _ hr ?_
        refine KasFin.intro F' N' (.head fun q hq => Nat.ne_of_lt (lR q hq)) fun h'' c F'' N'' => h R c _ h'' F'' N'' lR ?_
        rw [← hout]
        exact pages_pick P p.toList fun i hi => by simpa using List.all_eq_true.mp hall i hi
    · cases ho
end
end Mine.Internal
end PartMS
section PartP3
open PySem PySem.W PyProof.Rows
namespace Mine.Internal
theorem bind_inv {α β : Type} {o : Option α} {f : α → Option β} {b : β} {zG : Prop} (h : o.bind f = some b) (k : ∀ a, o = some a → f a = some b → zG) : zG := by
  cases o with
  | none => cases h
  | some a => exact k a rfl h
theorem bind_mk {α β : Type} {o : Option α} {f : α → Option β} {a : α} {x : Option β} (h : o = some a) (k : f a = x) : o.bind f = x := by
  rw [h]; exact k
theorem if_inv {α : Type} {c : Prop} [Decidable c] {x : Option α} {y : α} (h : (if c then none else x) = some y) : ¬ c ∧ x = some y := by
  by_cases hc : c
  · rw [if_pos hc] at h; cases h
  · rw [if_neg hc] at h; exact ⟨hc, h⟩
theorem if_inv' {α : Type} {c : Prop} [Decidable c] {x y : α} (h : (if c then some x else none) = some y) : c ∧ x = y := by
  by_cases hc : c
  · rw [if_pos hc] at h; exact ⟨hc, Option.some.inj h⟩
  · rw [if_neg hc] at h; cases h
noncomputable def mapO {α β : Type} (f : α → Option β) : List α → Option (List β)
  | [] => some []
  | a :: r => (f a).bind fun b => (mapO f r).bind fun bs => some (b :: bs)
noncomputable def numO : Nat → List (Nat × List Nat) → Option Nat
  | n, [] => some n
  | n, b :: r => if b.1 = 0 then none else (primesN[b.1 - 1]?).bind fun p => numO (n * p) r
theorem numO_n {n : Nat} : numO n [] = some n := rfl
noncomputable def pageOf (n : Nat) (out : List (Nat × List Nat)) : List Nat := [60] ++ letters n ++ [62] ++ (out.map (·.2)).flatten ++ [60, 47] ++ letters n ++ [62]
noncomputable def hungO (lk : List (Nat × Nat)) : Nat → Nat → Nat → Option (Nat × List Nat)
  | 0, _, _ => none
  | f + 1, here, source =>
    (mapO (fun there => hungO lk f there here) ((beside lk here).filter (fun x => x != source))).bind fun br => (sortO br).bind fun out => (numO 1 out).bind fun n =>
      if n < 2 ^ 100 ∧ (pageOf n out).length ≤ 1000 ∧ out.length ≤ 10 then some (n, pageOf n out) else none
theorem mapO_mk {α β : Type} {f : α → Option β} {a : α} {b : β} {r : List α} {bs : List β} (h1 : f a = some b) (h2 : mapO f r = some bs) : mapO f (a :: r) = some (b :: bs) := bind_mk h1 (bind_mk h2 rfl)
theorem mapO_inv {α β : Type} {f : α → Option β} {a : α} {r : List α} {bs : List β} {zG : Prop} (h : mapO f (a :: r) = some bs) (k : ∀ b bs', f a = some b → mapO f r = some bs' → b :: bs' = bs → zG) : zG :=
  bind_inv (o := f a) h fun b hb h => bind_inv h fun bs' hbs h => k b bs' hb hbs (Option.some.inj h)
theorem mapO_app {α β : Type} {f : α → Option β} {l : List α} : ∀ {bs : List β} {a : α} {b : β}, mapO f l = some bs → f a = some b → mapO f (l ++ [a]) = some (bs ++ [b]) := by
  induction l with
  | nil => intro bs a b h1 h2; cases Option.some.inj h1; exact mapO_mk h2 rfl
  | cons x r ih => intro bs a b h1 h2; refine mapO_inv h1 fun y ys hx hr e => ?_; cases e; exact mapO_mk hx (ih hr h2)
theorem mapO_mem {α β : Type} {f : α → Option β} {l : List α} : ∀ {bs : List β}, mapO f l = some bs → ∀ a ∈ l, ∃ b, f a = some b := by
  induction l with
  | nil => intro bs h a ha; cases ha
  | cons x r ih =>
    intro bs h a ha
    refine mapO_inv h fun y ys hx hr _ => ?_
    cases ha with
    | head => exact ⟨y, hx⟩
    | tail _ ha => exact ih hr a ha
theorem filt_yes {l : List Nat} {i a c : Nat} (h : l[i]? = some a) (e : a ≠ c) : (l.take (i + 1)).filter (fun x => x != c) = (l.take i).filter (fun x => x != c) ++ [a] := by
  rw [List.take_add_one, h]; simp [e]
theorem filt_no {l : List Nat} {i a c : Nat} (h : l[i]? = some a) (e : a = c) : (l.take (i + 1)).filter (fun x => x != c) = (l.take i).filter (fun x => x != c) := by
  rw [List.take_add_one, h]; simp [e]
theorem NI_get {l : List Nat} {i : Nat} {x : Int} (h : (NI l)[i]? = some x) : ∃ a, l[i]? = some a ∧ x = (a : Int) := by
  unfold NI at h
  rw [List.getElem?_map] at h
  cases ha : l[i]? with
  | none => rw [ha] at h; cases h
  | some a => rw [ha] at h; exact ⟨a, rfl, (Option.some.inj h).symm⟩
theorem ints_back {vs : List Value} {ns : List Int} (h : IntsAre vs ns) : ∀ {i : Nat} {v : Value}, vs[i]? = some v → ∃ n t, ns[i]? = some n ∧ v = .int n t := by
  induction h with
  | nil => intro i v e; simp at e
  | cons y t _ ih =>
    intro i v e
    cases i with
    | zero => exact ⟨y, t, rfl, by simpa using e.symm⟩
    | succ i => simpa using ih (i := i) (v := v) (by simpa using e)
theorem numO_mk {n p : Nat} {b : Nat × List Nat} {r : List (Nat × List Nat)} (h1 : b.1 ≠ 0) (h2 : primesN[b.1 - 1]? = some p) : numO n (b :: r) = numO (n * p) r := (if_neg h1).trans (bind_mk h2 rfl)
theorem numO_inv {n m : Nat} {b : Nat × List Nat} {r : List (Nat × List Nat)} {zG : Prop} (h : numO n (b :: r) = some m) (k : ∀ p, b.1 ≠ 0 → primesN[b.1 - 1]? = some p → numO (n * p) r = some m → zG) : zG :=
  bind_inv (if_inv h).2 fun p hx h' => k p (if_inv h).1 hx h'
theorem numO_get {l : List (Nat × List Nat)} : ∀ {q n : Nat}, numO q l = some n → ∀ b ∈ l, 1 ≤ b.1 ∧ ∃ p, primesN[b.1 - 1]? = some p := by
  induction l with
  | nil => intro q n h b hb; cases hb
  | cons x r ih =>
    intro q n h b hb
    refine numO_inv h fun p h0 hx hr => ?_
    cases hb with
    | head => exact ⟨Nat.pos_of_ne_zero h0, p, hx⟩
    | tail _ hb => exact ih hr b hb
theorem numO_app {l : List (Nat × List Nat)} : ∀ {q n p : Nat} {b : Nat × List Nat}, numO q l = some n → 1 ≤ b.1 → primesN[b.1 - 1]? = some p → numO q (l ++ [b]) = some (n * p) := by
  induction l with
  | nil =>
    intro q n p b h h1 h2
    cases Option.some.inj h
    exact numO_mk (Nat.ne_of_gt h1) h2
  | cons x r ih => intro q n p b h h1 h2; exact numO_inv h fun y h0 hx hr => (numO_mk h0 hx).trans (ih hr h1 h2)
theorem prime_lt {k p : Nat} (h : primesN[k]? = some p) : 2 ≤ p ∧ p < 100 := by
  have hh : ∀ p ∈ primesN, 2 ≤ p ∧ p < 100 := by decide
  exact hh p (List.mem_of_getElem? h)
theorem sumS : ∀ xs : List (List Nat), ((xs.map S).map (fun x => x.length)).sum = xs.flatten.length
  | [] => rfl
  | x :: r => by rw [List.map_cons, List.map_cons, List.sum_cons, sumS r, List.flatten_cons, List.length_append]; congr 1
end Mine.Internal
end PartP3
section PartDK
open PySem PySem.W PyProof.Rows PyProof.Rows.LCg
set_option maxHeartbeats 2000000
namespace Mine.Internal
theorem lk_list_keys : typeLookup (.type "list") "keys" = pure none := by rw [typeLookup_type, builtinLookup_eq_fast]; kernel_rfl
theorem lk_list_getattr : typeLookup (.type "list") "__getattr__" = pure none := by rw [typeLookup_type, builtinLookup_eq_fast]; kernel_rfl
section
variable {prog : Program} {w : World} {A : Around} {E : Value → Shared → Prop} {h : Heap} {g : Array GenState} {d : Drawn} {t : Nat} {os : OsState} {a : Addr} {o : Obj}
theorem keys_entry_list {tk : Tok} {Q : Fin → Shared → Prop} {vs : Array Value} {n : Nat} (hx : h.get? a = some (W.listOf vs n)) (hh : A.handled = none)
    (k : ∀ h' tk e, Heap.NewAttrErr h h' e (.ref a) "keys" → E (.ref e) ⟨h', g, d, tk, os⟩) :
    wpAny (model prog w) A (Builtin.«object.__getattribute__» ⟨[.ref a, .str "keys" tk], []⟩) Q E ⟨h, g, d, t, os⟩ := by
  have hT : (⟨h, g, d, t, os⟩ : Shared).TypeIs (.ref a) "list" := ⟨_, hx, rfl⟩
  have f4 := lk_list_keys
  repeat (any_goals (first | assumption | wp_step))
  exact wpAny_raiseAttrError hh k (attrMsg_fits (by decide +kernel) (by decide +kernel))
theorem keys_attr_list {Q : Option Value → Shared → Prop} {vs : Array Value} {n : Nat} (hx : h.get? a = some (W.listOf vs n)) (hh : A.handled = none)
    (k : ∀ h' tk, (∀ b ob, h.get? b = some ob → h'.get? b = some ob) → Q none ⟨h', g, d, tk, os⟩) : wpAny (model prog w) A (getAttr? (.ref a) "keys") Q E ⟨h, g, d, t, os⟩ := by
  have hT : ∀ t, (⟨h, g, d, t, os⟩ : Shared).TypeIs (.ref a) "list" := fun t => ⟨_, hx, rfl⟩
  have f1 := sub_AttributeError
  have f2 := F.slot_list_getattribute.lookup
  have f3 := F.slot_list_getattribute.bind (.ref a)
  have f5 := lk_list_getattr
  unfold getAttr? getAttrBy? getAttrBy
  repeat (any_goals (first | assumption | ((with_reducible show wpAny _ _ (call (Value.builtin "list.__getattribute__") _ _) _ _ _); refine wpAny_call (codeAny_call_builtin F.slot_list_getattribute.plain F.entry_list_ga (F.slot_list_getattribute.check _ _ _ _ _ _ _ _ (hT _) (F.args_list_getattribute_2 _ _) (keys_entry_list hx hh (fun h' tk' e hx2 => ?_))))) | wp_step))
  show (let zG : Prop := _; zG)
  intro zG
  obtain ⟨t', u', he⟩ := hx2.there
  (try k_unmd); k_unfold
  repeat (any_goals (first | assumption | wp_step))
  all_goals exact k _ _ hx2.keeps
theorem plain_upd : plainId "dict.update.loop" = true := by decide +kernel
theorem entry_upd : entryFor table "dict.update.loop" = some Builtin.«dict.update.loop» := entryFor_of_fast (by kernel_rfl)
noncomputable def parentOf : List (Nat × Nat) → Nat → Option Nat
  | [], _ => none
  | p :: r, x => match parentOf r x with
    | some y => some y
    | none => if p.1 = x then some p.2 else none
theorem parentOf_n {x : Nat} : parentOf [] x = none := rfl
theorem parentOf_c {p : Nat × Nat} {r : List (Nat × Nat)} {x : Nat} : parentOf (p :: r) x = match parentOf r x with
    | some y => some y
    | none => if p.1 = x then some p.2 else none := rfl
theorem parentOf_app (l : List (Nat × Nat)) (p : Nat × Nat) (x : Nat) : parentOf (l ++ [p]) x = if p.1 = x then some p.2 else parentOf l x := by
  induction l with
  | nil => rfl
  | cons q r ih =>
    rw [List.cons_append, parentOf_c, ih, parentOf_c]
    by_cases e : p.1 = x <;> simp [e]
theorem pair_tup {s : Shared} {t : Nat} {x y : Value} {Q : List Value → Shared → Prop} (ho : s.heap.get? t = some (tup [x, y])) (hq : Q [x, y] s) : wpAny (model prog w) A (Builtin.Dict.pairItems (.ref t)) Q E s := by
  have hT : s.TypeIs (.ref t) "tuple" := ⟨_, ho, rfl⟩
  unfold Builtin.Dict.pairItems
  refine wpAny_bind (wpAny_typeOf hT ?_)
  rw [if_pos (by decide)]
  show (let zG : Prop := _; zG)
  intro zG
  obtain ⟨hp, g, d, tk, os⟩ := s
  (try k_unmd); k_unfold
  repeat (any_goals (first | assumption | wp_step))
theorem upd_loop {I d ln : Nat} {lvs : List Value} {lk : List (Nat × Nat)} {res : Value} {R : Result → Shared → Prop} (hh : A.handled = none) (hne : ln ≠ I) (hnd : ln ≠ d) (hId : I ≠ d) (hlen : lvs.length ≤ 100) (hl2 : lvs.length = lk.length) :
    ∀ (k i : Nat) (s : Shared) (f : Int → Option Value), lvs.length - i = k → i ≤ lvs.length → s.heap.IsListIter I ln i → s.heap.IsList ln lvs.toArray →
      (∀ (j : Nat) (v : Value), lvs[j]? = some v → ∃ (p : Nat × Nat) (t : Nat) (a b : Tok), lk[j]? = some p ∧ v = Value.ref t ∧ t ≠ I ∧ t ≠ d ∧ s.heap.get? t = some (tup [.int (p.1 : Nat) a, .int (p.2 : Nat) b])) →
      s.heap.IntMap d f → s.heap.DictLe d i → (∀ x y, parentOf (lk.take i) x = some y → ∃ b, f (x : Nat) = some (.int (y : Nat) b)) →
      (∀ h' tk f', (∀ b o, b ≠ I → b ≠ d → s.heap.get? b = some o → h'.get? b = some o) → h'.IntMap d f' → (∀ x y, parentOf lk x = some y → ∃ b, f' (x : Nat) = some (.int (y : Nat) b)) → R (.ok (.ret res)) { s with heap := h', toks := tk }) →
      codeAny (model prog w) A (.builtin "dict.update.loop" ⟨[.ref d, .ref I, rawInt i, res], []⟩) R s := by
  have W := Walks.list (prog := prog) (w := w) (A := A.in1) hh I ln hne lvs.toArray
  intro k
  induction k with
  | zero =>
    intro i s f hk hi hit hl ht hm hle hf hR
    obtain rfl : i = lvs.length := Nat.le_antisymm (by assumption) (Nat.le_of_sub_eq_zero (by assumption))
    refine codeAny_builtin entry_upd ?_
    rw [Around.under_plainId plain_upd _]
    show wpAny _ A.in1 (pyNext (.ref I) >>= _) _ _ s
    have W' := W.done s
    rw [List.size_toArray] at W'
    refine wpAny_bind (W' _ _ ⟨hit, hl⟩ fun h' tk hk' => ?_)
    refine wpAny_pure (hR h' tk f (fun b o hb _ e => hk' b o (by simpa using hb) e) ?_ ?_)
    · obtain ⟨o, es, ep, ho, r⟩ := hm
      exact ⟨o, es, ep, hk' d o (by simpa using Ne.symm hId) ho, r⟩
    · rw [hl2, List.take_of_length_le (Nat.le_refl _)] at hf; exact hf
  | succ k ih =>
    intro i s f hk hi hit hl ht hm hle hf hR
    have hlt : i < lvs.length := Nat.lt_of_sub_eq_succ (by assumption)
    refine codeAny_builtin entry_upd ?_
    rw [Around.under_plainId plain_upd _]
    show wpAny _ A.in1 (pyNext (.ref I) >>= _) _ _ s
    refine wpAny_bind (W.item i s _ _ (by simpa using hlt) ⟨hit, hl⟩ fun v h' tk hP hst hk' => ?_)
    show (let zG : Prop := _; zG)
    intro zG
    obtain ⟨p, t, a, b, hp, rfl, htI, htd, hto⟩ := ht i v (by simpa using hP)
    have hto' : h'.get? t = some (tup [.int (p.1 : Nat) a, .int (p.2 : Nat) b]) := hk' t _ (by simpa using htI) hto
    have hT : ∀ k, (⟨h', s.gens, s.drawn, k, s.os⟩ : Shared).TypeIs (.ref t) "tuple" := fun k => ⟨_, hto', rfl⟩
    (try k_unmd); k_unfold
    show wpAny _ A.in1 (holding [Value.ref t] _ >>= _) _ _ _
    refine wpAny_bind (wpAny_holding ?_)
    refine wpAny_bind (wpAny_tryCatch (pair_tup hto' ?_))
    dsimp only
    refine wpAny_holding ?_
    refine wpAny_dictSet_int_le (f := f) ?_ (n := i) ?_ (by rw [sizeLine_eq]; (first | decide | lia | omega)) fun h2 hm2 hle2 hs2 => ?_
    · obtain ⟨o, es, ep, ho, r⟩ := hm
      exact ⟨o, es, ep, hk' d o (by simpa using Ne.symm hId) ho, r⟩
    · obtain ⟨o, es, ep, ho, r⟩ := hm
      have ho' : h'.get? d = some o := hk' d o (by simpa using Ne.symm hId) ho
      intro o2 es2 ep2 h1 h2
      have : o2 = o := Option.some.inj (h1.symm.trans ho')
      subst this
      exact hle _ _ _ ho h2
    refine wpAny_pure ⟨plainId_quiet plain_upd _, ?_⟩
    refine ih (i + 1) { s with heap := h2, toks := tk + 1 } (fun x => if x = (p.1 : Int) then some (.int (p.2 : Nat) b) else f x) (by rw [← Nat.sub_sub, (by assumption : lvs.length - i = _)]; rfl) hlt ?_ ?_ ?_ hm2 hle2 ?_ ?_
    · obtain ⟨o, q, r⟩ := hst.1
      exact ⟨o, hs2.extBut _ _ hId q, r⟩
    · obtain ⟨o, q, r⟩ := hst.2
      exact ⟨o, hs2.extBut _ _ hnd q, r⟩
    · intro j v hv
      show (let zG : Prop := _; zG)
      intro zG
      obtain ⟨p, t, a, b, hp, e, htI, htd, hto⟩ := ht j v hv
      (try k_unmd); k_unfold
      exact ⟨p, t, a, b, hp, e, htI, htd, hs2.extBut _ _ htd (hk' t _ (by simpa using htI) hto)⟩
    · intro x y hxy
      rw [List.take_add_one, hp] at hxy
      have hxy' : parentOf (lk.take i ++ [p]) x = some y := hxy
      rw [parentOf_app] at hxy'
      by_cases e : p.1 = x
      · rw [if_pos e] at hxy'
        obtain rfl : p.2 = y := Option.some.inj hxy'
        exact ⟨b, by rw [if_pos (by rw [e])]⟩
      · rw [if_neg e] at hxy'
        obtain ⟨b', hb'⟩ := hf x y hxy'
        exact ⟨b', by rw [if_neg (by (first | decide | lia | omega))]; exact hb'⟩
    · intro h3 tk3 f3 hk3 hm3 hf3
      exact hR h3 tk3 f3 (fun b o hb hd e => hk3 b o hb hd (hs2.extBut _ _ hd (hk' b o (by simpa using hb) e))) hm3 hf3
theorem dict_pairs {s : Shared} {h₀ : Heap} {L ln : Nat} {m : Str → Option Value} {news : List (Addr × Obj)} {lvs : List Value} {le : Nat} {lk : List (Nat × Nat)} {Q : Value → Shared → Prop} (hh : A.handled = none)
    (F : Fr h₀ L s.heap m) (N : News h₀ L s.heap news) (hm : (ln, W.listOf lvs.toArray le) ∈ news) (hlk : LinksAt news lvs lk) (hl : lk.length ≤ 10)
    (k : ∀ d h' tk o f, Fr h₀ L h' m → News h₀ L h' ((d, o) :: news) → (∀ p ∈ news, p.1 < d) → (∀ h : Heap, h.get? d = some o → h.IntMap d f) → (∀ x y, parentOf lk x = some y → ∃ b, f (x : Nat) = some (.int (y : Nat) b)) → Q (.ref d) { s with heap := h', toks := tk }) :
    wpAny (model prog w) A (call (.type "dict") [.ref ln]) Q E s := by
  refine callType_codes (Q₁ := fun obj s₁ => obj = .ref s.heap.objs.size ∧ s₁ = { s with heap := s.heap.push { cls := .type "dict", data := .dict #[] } }) PySem.F.kt_called_dict (PySem.F.kt_typeCall_dict_1 _) PySem.F.entry_dict_init (kt_code_dict_new _ ⟨rfl, rfl⟩) ?_
  rintro obj s₁ ⟨rfl, rfl⟩
  have zl := N _ hm
  have hll : ln < s.heap.objs.size := Heap.lt_size zl.1
  have hlp : (s.heap.push { cls := .type "dict", data := .dict #[] }).get? ln = some (W.listOf lvs.toArray le) := Heap.get?_push_of_some _ zl.1
  have hT : ∀ k, (⟨s.heap.push { cls := .type "dict", data := .dict #[] }, s.gens, s.drawn, k, s.os⟩ : Shared).TypeIs (.ref ln) "list" := fun k => ⟨_, hlp, rfl⟩
  have hdT : ∀ k, (⟨s.heap.push { cls := .type "dict", data := .dict #[] }, s.gens, s.drawn, k, s.os⟩ : Shared).TypeIs (.ref s.heap.objs.size) "dict" := fun k => ⟨_, Heap.get?_push_size _ rfl, rfl⟩
  refine ⟨hdT _, PySem.F.args_dict_init_2 _ _, ?_⟩
  unfold Builtin.«dict.__init__»
  refine wpAny_bind ?_
  unfold Builtin.Dict.selfAndRest
  refine wpAny_bind (wpAny_notOrdered_dict (hdT _) ?_)
  show wpAny _ _ (pure (s.heap.objs.size, [Value.ref ln])) _ _ _
  refine wpAny_pure ?_
  show wpAny _ _ (Builtin.Dict.updateFrom "dict.__init__" s.heap.objs.size (.ref ln) [] .none) _ _ _
  unfold Builtin.Dict.updateFrom
  refine wpAny_bind (wpAny_typeOf (hT _) ?_)
  rw [if_pos (by decide)]
  refine wpAny_bind (keys_attr_list (A := A.in1.in1) hlp hh fun h2 tk2 hk2 => ?_)
  rw [if_pos (show (none : Option Value).isNone = true from rfl)]
  have hdg : (s.heap.push { cls := .type "dict", data := .dict #[] }).get? s.heap.objs.size = some { cls := .type "dict", data := .dict #[] } := Heap.get?_push_size _ rfl
  have hd2 : h2.get? s.heap.objs.size = some { cls := .type "dict", data := .dict #[] } := hk2 _ _ hdg
  have hup : ∀ b o, s.heap.get? b = some o → h2.get? b = some o := fun b o e => hk2 _ _ (Heap.get?_push_of_some _ e)
  have hds : s.heap.objs.size < h2.objs.size := Heap.lt_size hd2
  refine wpAny_bind (wpAny_rule ?_)
  refine wpAny_bind (wpAny_pyIter_list (items := lvs.toArray) ⟨_, hk2 _ _ hlp, rfl, _, rfl⟩ ?_)
  refine wpAny_pure ⟨plainId_quiet plain_upd _, ?_⟩
  have hll2 : ln < h2.objs.size := Nat.lt_trans hll hds
  have nlt : ∀ p ∈ news, p.1 < s.heap.objs.size := fun p hp => Heap.lt_size (N p hp).1
  refine upd_loop (A := A.in1) (ln := ln) (lvs := lvs) (lk := lk) hh (Nat.ne_of_lt hll2) (Nat.ne_of_lt hll) (Nat.ne_of_gt hds) (by rw [hlk.length]; (first | decide | lia | omega)) hlk.length lvs.length 0 _ (fun _ => none) (by (first | decide | lia | omega)) (Nat.zero_le _) ?_ ?_ ?_ ?_ ?_ ?_ ?_
  · exact ⟨_, Heap.get?_push_size _ rfl, rfl, rfl⟩
  · exact ⟨_, Heap.get?_push_of_some _ (hk2 _ _ hlp), rfl, _, rfl⟩
  · intro j v hv
    show (let zG : Prop := _; zG)
    intro zG
    obtain ⟨p, hp, t, a, b, e, hmem⟩ := hlk.get hv
    (try k_unmd); k_unfold
    exact ⟨p, t, a, b, hp, e, Nat.ne_of_lt (Nat.lt_trans (nlt _ hmem) hds), Nat.ne_of_lt (nlt _ hmem), Heap.get?_push_of_some _ (hup _ _ (N _ hmem).1)⟩
  · exact ⟨_, _, _, Heap.get?_push_of_some _ hd2, rfl, rfl, (by intro e he; simp at he), fun k => rfl⟩
  · intro o es ep h1 h2'
    have := Option.some.inj (h1.symm.trans (Heap.get?_push_of_some _ hd2))
    subst this
    cases h2'
    exact Nat.zero_le _
  · intro x y hxy; cases hxy
  · intro h' tk f' hk' hm' hf'
    show (let zG : Prop := _; zG)
    intro zG
    obtain ⟨o', es, ep, ho', r⟩ := id hm'
    have hLs : L < s.heap.objs.size := F.ns.lt
    have keep : ∀ b o, s.heap.get? b = some o → h'.get? b = some o := fun b o e => hk' b o (Nat.ne_of_lt (Nat.lt_trans (Heap.lt_size e) hds)) (Nat.ne_of_lt (Heap.lt_size e)) (Heap.get?_push_of_some _ (hup _ _ e))
    (try k_unmd); k_unfold
    refine ⟨rfl, k _ h' tk o' f' (F.keeps keep) (fun p hp => ?_) nlt (fun h e => ⟨o', es, ep, e, r⟩) hf'⟩
    rcases List.mem_cons.mp hp with rfl | hp
    · exact ⟨ho', Nat.ne_of_gt hLs, Heap.get?_none_of_le (Nat.le_trans F.above (Nat.le_of_lt hLs))⟩
    · exact ⟨keep _ _ (N p hp).1, (N p hp).2⟩
end
end Mine.Internal
end PartDK
section PartM3
open PySem PySem.W PyProof.Rows PyProof.Rows.LCg
set_option maxHeartbeats 8000000
namespace Mine.Internal
section
variable {prog : Program} {w : World} {A : Around} {E : Value → Shared → Prop} {s : Shared} {h₀ : Heap} {L : Nat} {m : Str → Option Value} {env : Env}
theorem item_lst {t k : Nat} {vs : List Value} {e : Nat} {news : List (Addr × Obj)} {u : Tok} {x : Int} {v : Value} {value slice : Expr} {Q : Value → Shared → Prop} (N : News h₀ L s.heap news) (hm : (t, W.listOf vs.toArray e) ∈ news) (hx : x = (k : Nat)) (hk : vs[k]? = some v) (hz : k < 100000) (h : Q v s)
    (hs : subscripted slice false (.ref t) (.int x u) = operate [.ref t, .int x u] (getItem (.ref t) (.int x u)) := by with_unfolding_all rfl) :
    wpAny (model prog w) A (subscriptTail value slice (.ref t) (.int x u)) Q E s := by
  subst hx
  have hl : s.heap.IsList t vs.toArray := ⟨_, (N _ hm).1, rfl, _, rfl⟩
  exact tail_any hl.typeIs slot_list_getitem.lookup (wpAny_getItem_list hl (by (first | decide | lia | omega)) (by (first | decide | lia | omega)) (by simpa using hk) h) hs
theorem item_map {d : Nat} {o : Obj} {f : Int → Option Value} {news : List (Addr × Obj)} {u : Tok} {x : Int} {v : Value} {value slice : Expr} {Q : Value → Shared → Prop} (N : News h₀ L s.heap news) (hm : (d, o) ∈ news) (hf : ∀ h : Heap, h.get? d = some o → h.IntMap d f) (hk : f x = some v) (h : Q v { s with toks := s.toks + 1 })
    (hs : subscripted slice false (.ref d) (.int x u) = operate [.ref d, .int x u] (getItem (.ref d) (.int x u)) := by with_unfolding_all rfl) :
    wpAny (model prog w) A (subscriptTail value slice (.ref d) (.int x u)) Q E s := by
  have hl : s.heap.IntMap d f := hf _ (N _ hm).1
  exact tail_any hl.typeIs slot_dict_getitem.lookup (wpAny_getItem_intMap hl hk h) hs
theorem len_lst {t : Nat} {vs : List Value} {e : Nat} {news : List (Addr × Obj)} {Q : Value → Shared → Prop} (N : News h₀ L s.heap news) (hm : (t, W.listOf vs.toArray e) ∈ news) (hz : vs.length < 100000) (h : ∀ u k, Q (.int (vs.length : Nat) u) { s with toks := k }) :
    wpAny (model prog w) A (call (.builtin "len") [.ref t]) Q E s := by
  have hl : s.heap.IsList t vs.toArray := ⟨_, (N _ hm).1, rfl, _, rfl⟩
  refine PyProof.Rows.len_list hl (by rw [List.size_toArray]; (first | decide | lia | omega)) ?_
  simpa using h _ _
theorem news_set1 {D : Addr} {o o' : Obj} {l : List (Addr × Obj)} {h h' : Heap} (N : News h₀ L h ((D, o) :: l)) (hl : ∀ p ∈ l, p.1 ≠ D) (hs : Heap.SameBut D h h') (hD : h'.get? D = some o') : News h₀ L h' ((D, o') :: l) := fun p hp => by
  rcases List.mem_cons.mp hp with rfl | hp
  · exact ⟨hD, (N (D, o) (.head _)).2⟩
  · exact ⟨hs.extBut _ _ (hl p hp) (N p (.tail _ hp)).1, (N p (.tail _ hp)).2⟩
theorem news_pick {x : Addr × Obj} {l l' : List (Addr × Obj)} {h : Heap} (N : News h₀ L h (x :: l)) (hs : ∀ p ∈ l', p ∈ l) : News h₀ L h (x :: l') := fun p hp => by
  rcases List.mem_cons.mp hp with rfl | hp
  · exact N _ (.head _)
  · exact N p (.tail _ (hs p hp))
end
end Mine.Internal
end PartM3
section PartM5
open PySem PySem.W PyProof.Rows PyProof.Rows.LCg
set_option maxHeartbeats 2000000
namespace Mine.Internal
section
variable {prog : Program} {w : World} {A : Around} {E : Value → Shared → Prop} {s : Shared} {h₀ : Heap} {L : Nat} {m : Str → Option Value} {news : List (Addr × Obj)}
theorem last_lst {t : Nat} {vs : List Value} {e : Nat} {u : Tok} {v : Value} {value slice : Expr} {Q : Value → Shared → Prop} (N : News h₀ L s.heap news) (hm : (t, W.listOf (vs ++ [v]).toArray e) ∈ news) (h : Q v s)
    (hs : subscripted slice false (.ref t) (.int (-1) u) = operate [.ref t, .int (-1) u] (getItem (.ref t) (.int (-1) u)) := by with_unfolding_all rfl) :
    wpAny (model prog w) A (subscriptTail value slice (.ref t) (.int (-1) u)) Q E s := by
  have hl : s.heap.IsList t (vs ++ [v]).toArray := ⟨_, (N _ hm).1, rfl, _, rfl⟩
  refine tail_any hl.typeIs slot_list_getitem.lookup (wpAny_getItem_list_neg hl (by decide) (by simp; (first | decide | lia | omega)) (by decide) ?_ h) hs
  have e1 : ((-1 : Int) + ((vs ++ [v]).toArray.size : Nat)).toNat = vs.length := by simp; (first | decide | lia | omega)
  rw [e1]
  simp
theorem kl_last_app (vs : List Value) (y : Value) : kl_last (vs ++ [y]) = some (vs, y) := by
  induction vs with
  | nil => rfl
  | cons a l ih => simp [kl_last, ih]
theorem pop_L {D : Nat} {vs : List Value} {e : Nat} {y : Value} {news' : List (Addr × Obj)} {Q : Value → Shared → Prop} (F : Fr h₀ L s.heap m) (N : News h₀ L s.heap news)
    (U : Upd D (W.listOf (vs ++ [y]).toArray e) (W.listOf vs.toArray (e + 1)) news news') (hz : vs.length ≤ 10000) (h : ∀ h', Fr h₀ L h' m → News h₀ L h' news' → Q y { s with heap := h' }) :
    wpAny (model prog w) A (call (.builtin "list.pop") [.ref D]) Q E s :=
  kl_pop F N (by simpa using kl_last_app vs y) U (by simp [sizeLine_eq]; (first | decide | lia | omega)) h
theorem truthy_nil {t : Nat} {e : Nat} {Q : Bool → Shared → Prop} (N : News h₀ L s.heap news) (hm : (t, W.listOf ([] : List Value).toArray e) ∈ news) (h : Q false { s with toks := s.toks + 1 + 1 }) :
    wpAny (model prog w) A (truthy (.ref t)) Q E s :=
  wpAny_truthy_list (items := #[]) ⟨_, (N _ hm).1, rfl, _, rfl⟩ (by simp) (by simpa using h)
theorem method_field {K : Frag} {x C : Addr} {ox : Obj} {name : Str} {es : List DictEntry} {n : Nat} {pl : Sem Bool} {Q : Value × List Value → Shared → Prop} {v : Value} (F : Fr h₀ L s.heap m) (X₀ : K.In h₀) (I : InstAt s.heap x ox C (some (dictOf es n))) (hg : plainGet K C name = true) (hh : hasDictIn K C = true)
    (hf : findIn K (.ref C) name = some none) (hl : getL name es = some (some v)) (hv : handedIn v = true) (h : Q (v, []) { s with toks := s.toks + 1 }) : wpAny (model prog w) A (getMethod (.ref x) name pl) Q E s :=
  kmu_own F X₀ I hg hf (get_own F X₀ I hg hh hf rfl hl hv h)
end
end Mine.Internal
end PartM5
section PartBD
open PySem PySem.Calls PySem.Spec PySem.W PyProof.Rows PyProof.Rows.LCg
set_option maxHeartbeats 2000000
namespace Mine.Internal
section
variable {prog : Program} {w : World} {A : Around} {E : Value → Shared → Prop} {s : Shared} {h₀ : Heap} {L : Nat} {m : Str → Option Value} {news : List (Addr × Obj)}
noncomputable def BdAt (u : Addr) (o : Obj) (h : Heap) : Prop := h.get? u = some o
noncomputable abbrev bdApp (pc : Addr) : Obj := { cls := .type "builtin_function_or_method", data := .fields #[.builtin "list.append", .ref pc] }
theorem callWith_bfields {pos : Pos} {u pc : Addr} {first : List Value} {args : List (Bool × Sem Value)} {Q : Value → Shared → Prop} (hplain : args.any (·.1) = false)
    (h : wpAny (model prog w) A (evalArgs (.ref u) true args []) (fun x s₁ => BdAt u (bdApp pc) s₁.heap ∧ wpAny (model prog w) A (call (.ref u) (first ++ x.pos) x.kw) Q E s₁) E s) : wpAny (model prog w) A (callWith pos (.ref u) first args []) Q E s := by
  unfold callWith
  refine wpAny_bind (wpAny_holding (wpAny_mono h (fun x s₁ h₁ => wpAny_bind (wpAny_standAt ?_)) fun _ _ x => x))
  obtain ⟨ho, hcall⟩ := h₁
  rw [hplain]
  dsimp only [List.any_nil, Bool.or_false]
  refine wpAny_bind (m := keeperOf (.ref u)) ?_
  unfold keeperOf
  refine wpAny_bind (wpAny_load ho ?_)
  dsimp only
  refine wpAny_pure ?_
  exact wpAny_bind (wpAny_mono hcall (fun r s₂ hr => wpAny_bind (wpAny_holding (wpAny_point (wpAny_pure hr)))) fun _ _ x => x)
theorem callWith_app {pos : Pos} {u pc : Addr} {first : List Value} {env : Env} {e : Expr} {rest : List Expr} {Q : Value → Shared → Prop} (_N : News h₀ L s.heap news) (_hm : (u, bdApp pc) ∈ news)
    (h : wpAny (model prog w) A (spliced (backTo pos (starEach (e :: rest) env))) (fun vs s₁ => BdAt u (bdApp pc) s₁.heap ∧ wpAny (model prog w) A (call (.ref u) (first ++ vs)) Q E s₁) E s)
    (he : starEach (e :: rest) env = (false, eval e env) :: starEach rest env := by rfl) (hplain : (backTo pos (starEach rest env)).any (·.1) = false := by rfl) :
    wpAny (model prog w) A (callWith pos (.ref u) first (backTo pos (starEach (e :: rest) env)) []) Q E s := by
  rw [he] at h ⊢
  refine callWith_bfields (pc := pc) (by show (false || (backTo pos (starEach rest env)).any (·.1)) = false; rw [hplain]; rfl) ?_
  exact evalArgs_plain h
theorem quiet_app {as : Args} : (Code.builtin "list.append" as).quiet = true := Code.quiet_builtin _ (by decide +kernel)
theorem check_app {pc : Addr} {v : Value} {Q : Unit → Shared → Prop} (hT : s.TypeIs (.ref pc) "list") (hd : ∃ o, s.heap.get? pc = some o ∧ ∃ xs n, o.data = .seq xs n) (h : Q () s) : wpAny (model prog w) A (checkBoundCall "list.append" ⟨[.ref pc, v], []⟩) Q E s := by
  unfold checkBoundCall
  rw [signature?_of (id := "list.append") (n := ['d', 'n', 'e', 'p', 'p', 'a']) (o := ['t', 's', 'i', 'l']) (by kernel_rfl) PySem.F.owner_list]
  rw [show builtinKind "list.append" = some .method by decide +kernel]
  dsimp only
  refine KFB.if_not (by decide) ?_
  refine wpAny_bind (wpAny_isInstance (b := false) hT (by rw [isSubtype_type]; kernel_rfl) ?_)
  refine KFB.if_not (by decide +kernel) ?_
  show (let zG : Prop := _; zG)
  intro zG
  obtain ⟨o, ho, xs, n, hd⟩ := hd
  (try k_unmd); k_unfold
  refine wpAny_bind (m := isType (.ref pc)) ?_
  unfold isType loadHead
  refine wpAny_bind (wpAny_loadPart ho ?_)
  rw [hd]
  refine wpAny_pure ?_
  refine KFB.if_not rfl ?_
  refine wpAny_bind (wpAny_typeOf hT ?_)
  dsimp only
  refine wpAny_of_eq (a := ()) ?_ h
  show Bind.checkArgs "list.append" _ _ = _
  kernel_rfl
theorem call_app {u pc : Addr} {vs : List Value} {e : Nat} {v : Value} {news' : List (Addr × Obj)} {Q : Value → Shared → Prop} (F : Fr h₀ L s.heap m) (N : News h₀ L s.heap news) (hu : (u, bdApp pc) ∈ news)
    (U : Upd pc (W.listOf vs.toArray e) (W.listOf (vs ++ [v]).toArray (e + 1)) news news') (hz : vs.length ≤ 10000) (h : ∀ h', Fr h₀ L h' m → News h₀ L h' news' → Q .none { s with heap := h' }) :
    wpAny (model prog w) A (call (.ref u) [v]) Q E s := by
  have ho := (N _ hu).1
  show (let zG : Prop := _; zG)
  intro zG
  obtain ⟨pre, post, rfl, rfl, a, b⟩ := U.split
  have z := N (pc, W.listOf vs.toArray e) (List.mem_append.mpr (.inr (.head _)))
  have hl : s.heap.IsList pc vs.toArray := ⟨_, z.1, rfl, _, rfl⟩
  (try k_unmd); k_unfold
  refine wpAny_call (codeAny_of_tree ?_)
  show wpAny _ A.in1 (callAny (.ref u) ⟨[v], []⟩) _ _ s
  dsimp only [callAny]
  refine wpAny_bind (wpAny_load ho ?_)
  dsimp only
  refine KFB.if_so (by decide) ?_
  refine wpAny_bind (check_app hl.typeIs ⟨_, z.1, _, _, rfl⟩ ?_)
  refine wpAny_bind (wpAny_pure (wpAny_pure ?_))
  refine ⟨quiet_app, codeAny_builtin PySem.F.entry_list_append ?_⟩
  show wpAny _ _ (updateSeq pc (·.push v) >>= fun _ => ret .none) _ _ s
  refine wpAny_bind ?_
  refine wpAny_updateSeq (hz := by simp [sizeLine_eq]; (first | decide | lia | omega)) z.1 rfl (wpAny_pure ?_)
  refine h _ (F.change (Heap.SameBut.update ..) z.2.1 z.2.2) (kl_turn _ N a b ?_ ?_)
  · simp
  · simp
theorem bdAt_of {u : Addr} {o : Obj} {h : Heap} (N : News h₀ L h news) (hm : (u, o) ∈ news) : BdAt u o h := (N _ hm).1
end
end Mine.Internal
end PartBD
section PartD0
open PySem PySem.W PyProof.Rows PyProof.Rows.LCg
set_option maxHeartbeats 2000000
namespace Mine.Internal
section
variable {prog : Program} {w : World} {A : Around} {E : Value → Shared → Prop} {s : Shared} {h₀ : Heap} {L : Nat} {m : Str → Option Value} {news : List (Addr × Obj)}
theorem truthy_d0 {d : Addr} {o : Obj} {Q : Bool → Shared → Prop} (N : News h₀ L s.heap news) (hm : (d, o) ∈ news) (hd : o.IsDictOf (PySem.strKind prog w) []) (lo : (d == sysModules) = false) (h : Q false { s with toks := s.toks + 1 + 1 }) :
    wpAny (model prog w) A (truthy (.ref d)) Q E s :=
  wpAny_truthy_dict lo (kda_dict N hm hd) (by decide) (by simpa using h)
theorem getm_d0 {d : Addr} {o : Obj} {pl : Sem Bool} {Q : Value × List Value → Shared → Prop} (N : News h₀ L s.heap news) (hm : (d, o) ∈ news) (hd : o.IsDictOf (PySem.strKind prog w) []) (h : Q (.builtin "dict.get", [.ref d]) s) :
    wpAny (model prog w) A (getMethod (.ref d) (Str.ofString "get") pl) Q E s := kdg_method (knd := PySem.strKind prog w) N hm hd h
theorem get_d0 {d : Addr} {o : Obj} {x : Str} {t : Tok} {Q : Value → Shared → Prop} (N : News h₀ L s.heap news) (hm : (d, o) ∈ news) (hd : o.IsDictOf (PySem.strKind prog w) []) (lo : (d == sysModules) = false) (h : Q .none { s with toks := s.toks + 1 }) :
    wpAny (model prog w) A (call (.builtin "dict.get") [.ref d, .str x t]) Q E s := kdg_get1 (knd := PySem.strKind prog w) N hm hd lo (strKind_is _ _ _ _) none rfl h
end
end Mine.Internal
end PartD0
section PartSLM
open PySem PySem.W PyProof.Rows PyProof.Rows.LCg
namespace Mine.Internal
theorem cInt {M : Model} {A : Around} {env : Env} {i : Int} {k : Nat} {pos : Pos} {h : Heap} {g : Array GenState} {d : Drawn} {t : Nat} {o : OsState} {Q : Value → Shared → Prop} {E : Value → Shared → Prop}
    (hh : Q (.int i t) (Shared.mk h g d (t + 1) o)) : wpAny M A (eval (.Constant (.int i) k pos) env) Q E (Shared.mk h g d t o) := wpAny_Constant_int hh
theorem cStr {M : Model} {A : Around} {env : Env} {x : Str} {k : Nat} {pos : Pos} {h : Heap} {g : Array GenState} {d : Drawn} {t : Nat} {o : OsState} {Q : Value → Shared → Prop} {E : Value → Shared → Prop}
    (hh : Q (.str x t) (Shared.mk h g d (t + 1) o)) : wpAny M A (eval (.Constant (.str x) k pos) env) Q E (Shared.mk h g d t o) := PySem.Calls.Constant_str hh
theorem gen_tok {α : Type} {M : Model} {A : Around} {c : Sem α} {Q : α → Shared → Prop} {E : Value → Shared → Prop} {h : Heap} {g : Array GenState} {d : Drawn} {t : Nat} {o : OsState}
    (k : ∀ t', wpAny M A c Q E (Shared.mk h g d t' o)) : wpAny M A c Q E (Shared.mk h g d t o) := k t
noncomputable def Lk (m : Str → Option Value) (x : Str) (v : Value) : Prop := m x = some v
theorem Lk.of {m : Str → Option Value} {x : Str} {v : Value} (h : m x = some v) : Lk m x v := h
theorem Lk.hit {m : Str → Option Value} {x : Str} {v : Value} : Lk (fun y => if y = x then some v else m y) x v := if_pos rfl
theorem Lk.skip {m : Str → Option Value} {x a : Str} {u : Option Value} {v : Value} (n : ¬ x = a) (h : Lk m x v) : Lk (fun y => if y = a then u else m y) x v := (if_neg n).trans h
section
variable {M : Model} {A : Around} {E : Value → Shared → Prop} {s : Shared} {h₀ : Heap} {L a : Addr} {m : Str → Option Value} {cn : Str} {cs : Scope} {ccd : Value} {cl : List (Str × Addr)} {x : Str} {pos : Pos} {v : Value} {news : List (Addr × Obj)}
theorem nameX_S {Q : Value → Shared → Prop} (F : Fr h₀ L s.heap m)
    (hk : cs.kind = .function) (hx : (envX cn cs L a ccd cl).kindOf x = some .local) (hd : (x == ("__debug__" : Str)) = false) (hv : Lk m x v) (h : Q v s) :
    wpAny M A (eval (.Name x pos) (envX cn cs L a ccd cl)) Q E s := nameX_L F hv h hk hx hd
theorem loadX_S {Q : Value → Shared → Prop} (F : Fr h₀ L s.heap m)
    (hk : cs.kind = .function) (hx : (envX cn cs L a ccd cl).kindOf x = some .local) (hv : Lk m x v) (h : Q v s) :
    wpAny M A (loadName (envX cn cs L a ccd cl) x) Q E s := wpAny_loadName_local hk hx F.ns hv h
end
theorem storeX_S {M : Model} {A : Around} {E : Value → Shared → Prop} {h₀ : Heap} {L a : Addr} {m : Str → Option Value} {cn : Str} {cs : Scope} {ccd : Value} {cl : List (Str × Addr)} {x : Str} {v : Value} {news : List (Addr × Obj)} {Q : Unit → Shared → Prop} {h1 : Heap} {g : Array GenState} {d : Drawn} {t : Nat} {o : OsState}
    (F : Fr h₀ L h1 m) (N : News h₀ L h1 news)
    (hk : cs.kind = .function) (hx : (envX cn cs L a ccd cl).kindOf x = some .local)
    (h : ∀ h' t', Fr h₀ L h' (fun y => if y = x then some v else m y) → News h₀ L h' news → Q () (Shared.mk h' g d t' o)) : wpAny M A (storeName (envX cn cs L a ccd cl) x v) Q E (Shared.mk h1 g d t o) :=
  storeX_L (s := Shared.mk h1 g d t o) F N (fun h' => h h' (t + 1)) hk hx
theorem fa_cons {α : Type} {a : α} {l : List α} {P : α → Prop} (h : P a) (t : ∀ x ∈ l, P x) : ∀ x ∈ a :: l, P x := fun x hx => by
  cases hx with
  | head => exact h
  | tail _ hx => exact t x hx
theorem sub_cons {α : Type} {a : α} {l m : List α} (h : a ∈ m) (t : ∀ x ∈ l, x ∈ m) : ∀ x ∈ a :: l, x ∈ m := fa_cons h t
theorem room_0 {d a k R : Nat} (h : d + k < R) (e : a ≤ k) : d + a < R := Nat.lt_of_le_of_lt (Nat.add_le_add_left e d) h
theorem room_c {d c a k R : Nat} (h : d + k < R) (e : c + a ≤ k) : d + c + a < R := by rw [Nat.add_assoc]; exact room_0 h e
theorem room_cc {d c a b k R : Nat} (h : d + k < R) (e : c + a + b ≤ k) : d + c + a + b < R := by rw [Nat.add_assoc]; exact room_c h (by rw [← Nat.add_assoc]; exact e)
theorem room_ccc {d c a b f k R : Nat} (h : d + k < R) (e : c + a + b + f ≤ k) : d + c + a + b + f < R := by rw [Nat.add_assoc]; exact room_cc h (by rw [← Nat.add_assoc]; exact e)
noncomputable def Inc : List Nat → Prop
  | a :: b :: l => a < b ∧ Inc (b :: l)
  | _ => True
theorem Inc.first {a : Nat} {l : List Nat} (h : Inc (a :: l)) : ∀ b ∈ l, a < b := by
  induction l generalizing a with
  | nil => exact fun _ hb => nomatch hb
  | cons c l ih =>
    intro b hb
    cases hb with
    | head => exact h.1
    | tail _ hb => exact Nat.lt_trans h.1 (ih h.2 b hb)
theorem Inc.tail {a : Nat} {l : List Nat} (h : Inc (a :: l)) : Inc l := by
  cases l with
  | nil => trivial
  | cons b l => exact h.2
theorem Inc.lt {l : List Nat} (h : Inc l) {i j a b : Nat} (hij : i < j) (ha : l[i]? = some a := by rfl) (hb : l[j]? = some b := by rfl) : a < b := by
  induction l generalizing i j with
  | nil => cases ha
  | cons c l ih =>
    cases j with
    | zero => cases hij
    | succ j =>
      cases i with
      | zero =>
        cases ha
        exact h.first b (List.mem_of_getElem? (i := j) (by simpa using hb))
      | succ i => exact ih h.tail (Nat.lt_of_succ_lt_succ hij) (by simpa using ha) (by simpa using hb)
theorem Inc.ne {l : List Nat} (h : Inc l) {i j a b : Nat} (hij : i < j) (ha : l[i]? = some a := by rfl) (hb : l[j]? = some b := by rfl) : a ≠ b := Nat.ne_of_lt (h.lt hij ha hb)
theorem Inc.ne' {l : List Nat} (h : Inc l) {i j a b : Nat} (hij : i < j) (ha : l[i]? = some a := by rfl) (hb : l[j]? = some b := by rfl) : b ≠ a := Nat.ne_of_gt (h.lt hij ha hb)
inductive Bef : List Nat → Nat → Nat → Prop
  | here {a b : Nat} {l : List Nat} (h : b ∈ l) : Bef (a :: l) a b
  | there {a b c : Nat} {l : List Nat} (h : Bef l a b) : Bef (c :: l) a b
theorem Inc.bef {l : List Nat} (h : Inc l) {a b : Nat} (p : Bef l a b) : a < b := by
  induction p with
  | here hb => exact h.first _ hb
  | there _ ih => exact ih h.tail
theorem Inc.ne2 {l : List Nat} (h : Inc l) {a b : Nat} (p : Bef l a b) : a ≠ b := Nat.ne_of_lt (h.bef p)
theorem Inc.ne3 {l : List Nat} (h : Inc l) {a b : Nat} (p : Bef l a b) : b ≠ a := Nat.ne_of_gt (h.bef p)
theorem lt3 {i : Nat} (h : i < 3) : i = 0 ∨ i = 1 ∨ i = 2 := by omega
theorem lt5 {i : Nat} (h : i < 5) : i = 0 ∨ i = 1 ∨ i = 2 ∨ i = 3 ∨ i = 4 := by omega
theorem and_true3 {a b c d e f : Nat} (h1 : a ≠ b) (h2 : c ≠ d) (h3 : e ≠ f) : (a != b && c != d && e != f) = true := by simp [h1, h2, h3]
theorem mem_0 {α : Type} {z : α} {l : List α} : z ∈ z :: l := .head _
theorem sub_0 {α : Type} {l : List α} : ∀ x ∈ l, x ∈ l := fun _ hx => hx
theorem mem_1 {α : Type} {a0 z : α} {l : List α} : z ∈ a0 :: z :: l := .tail _ (.head _)
theorem sub_1 {α : Type} {a0 : α} {l : List α} : ∀ x ∈ l, x ∈ a0 :: l := fun _ hx => .tail _ (hx)
theorem lift_1 {α : Type} {a0 x : α} {l : List α} (hx : x ∈ l) : x ∈ a0 :: l := .tail _ (hx)
theorem mem_2 {α : Type} {a0 a1 z : α} {l : List α} : z ∈ a0 :: a1 :: z :: l := .tail _ (.tail _ (.head _))
theorem sub_2 {α : Type} {a0 a1 : α} {l : List α} : ∀ x ∈ l, x ∈ a0 :: a1 :: l := fun _ hx => .tail _ (.tail _ (hx))
theorem lift_2 {α : Type} {a0 a1 x : α} {l : List α} (hx : x ∈ l) : x ∈ a0 :: a1 :: l := .tail _ (.tail _ (hx))
theorem mem_3 {α : Type} {a0 a1 a2 z : α} {l : List α} : z ∈ a0 :: a1 :: a2 :: z :: l := .tail _ (.tail _ (.tail _ (.head _)))
theorem sub_3 {α : Type} {a0 a1 a2 : α} {l : List α} : ∀ x ∈ l, x ∈ a0 :: a1 :: a2 :: l := fun _ hx => .tail _ (.tail _ (.tail _ (hx)))
theorem lift_3 {α : Type} {a0 a1 a2 x : α} {l : List α} (hx : x ∈ l) : x ∈ a0 :: a1 :: a2 :: l := .tail _ (.tail _ (.tail _ (hx)))
theorem mem_4 {α : Type} {a0 a1 a2 a3 z : α} {l : List α} : z ∈ a0 :: a1 :: a2 :: a3 :: z :: l := .tail _ (.tail _ (.tail _ (.tail _ (.head _))))
theorem lift_4 {α : Type} {a0 a1 a2 a3 x : α} {l : List α} (hx : x ∈ l) : x ∈ a0 :: a1 :: a2 :: a3 :: l := .tail _ (.tail _ (.tail _ (.tail _ (hx))))
theorem mem_5 {α : Type} {a0 a1 a2 a3 a4 z : α} {l : List α} : z ∈ a0 :: a1 :: a2 :: a3 :: a4 :: z :: l := .tail _ (.tail _ (.tail _ (.tail _ (.tail _ (.head _)))))
theorem sub_5 {α : Type} {a0 a1 a2 a3 a4 : α} {l : List α} : ∀ x ∈ l, x ∈ a0 :: a1 :: a2 :: a3 :: a4 :: l := fun _ hx => .tail _ (.tail _ (.tail _ (.tail _ (.tail _ (hx)))))
theorem mem_6 {α : Type} {a0 a1 a2 a3 a4 a5 z : α} {l : List α} : z ∈ a0 :: a1 :: a2 :: a3 :: a4 :: a5 :: z :: l := .tail _ (.tail _ (.tail _ (.tail _ (.tail _ (.tail _ (.head _))))))
theorem lift_6 {α : Type} {a0 a1 a2 a3 a4 a5 x : α} {l : List α} (hx : x ∈ l) : x ∈ a0 :: a1 :: a2 :: a3 :: a4 :: a5 :: l := .tail _ (.tail _ (.tail _ (.tail _ (.tail _ (.tail _ (hx))))))
theorem mem_7 {α : Type} {a0 a1 a2 a3 a4 a5 a6 z : α} {l : List α} : z ∈ a0 :: a1 :: a2 :: a3 :: a4 :: a5 :: a6 :: z :: l := .tail _ (.tail _ (.tail _ (.tail _ (.tail _ (.tail _ (.tail _ (.head _)))))))
theorem lift_7 {α : Type} {a0 a1 a2 a3 a4 a5 a6 x : α} {l : List α} (hx : x ∈ l) : x ∈ a0 :: a1 :: a2 :: a3 :: a4 :: a5 :: a6 :: l := .tail _ (.tail _ (.tail _ (.tail _ (.tail _ (.tail _ (.tail _ (hx)))))))
theorem mem_8 {α : Type} {a0 a1 a2 a3 a4 a5 a6 a7 z : α} {l : List α} : z ∈ a0 :: a1 :: a2 :: a3 :: a4 :: a5 :: a6 :: a7 :: z :: l := .tail _ (.tail _ (.tail _ (.tail _ (.tail _ (.tail _ (.tail _ (.tail _ (.head _))))))))
theorem sub_8 {α : Type} {a0 a1 a2 a3 a4 a5 a6 a7 : α} {l : List α} : ∀ x ∈ l, x ∈ a0 :: a1 :: a2 :: a3 :: a4 :: a5 :: a6 :: a7 :: l := fun _ hx => .tail _ (.tail _ (.tail _ (.tail _ (.tail _ (.tail _ (.tail _ (.tail _ (hx))))))))
theorem lift_8 {α : Type} {a0 a1 a2 a3 a4 a5 a6 a7 x : α} {l : List α} (hx : x ∈ l) : x ∈ a0 :: a1 :: a2 :: a3 :: a4 :: a5 :: a6 :: a7 :: l := .tail _ (.tail _ (.tail _ (.tail _ (.tail _ (.tail _ (.tail _ (.tail _ (hx))))))))
theorem mem_9 {α : Type} {a0 a1 a2 a3 a4 a5 a6 a7 a8 z : α} {l : List α} : z ∈ a0 :: a1 :: a2 :: a3 :: a4 :: a5 :: a6 :: a7 :: a8 :: z :: l := .tail _ (.tail _ (.tail _ (.tail _ (.tail _ (.tail _ (.tail _ (.tail _ (.tail _ (.head _)))))))))
theorem sub_9 {α : Type} {a0 a1 a2 a3 a4 a5 a6 a7 a8 : α} {l : List α} : ∀ x ∈ l, x ∈ a0 :: a1 :: a2 :: a3 :: a4 :: a5 :: a6 :: a7 :: a8 :: l := fun _ hx => .tail _ (.tail _ (.tail _ (.tail _ (.tail _ (.tail _ (.tail _ (.tail _ (.tail _ (hx)))))))))
theorem mem_10 {α : Type} {a0 a1 a2 a3 a4 a5 a6 a7 a8 a9 z : α} {l : List α} : z ∈ a0 :: a1 :: a2 :: a3 :: a4 :: a5 :: a6 :: a7 :: a8 :: a9 :: z :: l := .tail _ (.tail _ (.tail _ (.tail _ (.tail _ (.tail _ (.tail _ (.tail _ (.tail _ (.tail _ (.head _))))))))))
theorem sub_10 {α : Type} {a0 a1 a2 a3 a4 a5 a6 a7 a8 a9 : α} {l : List α} : ∀ x ∈ l, x ∈ a0 :: a1 :: a2 :: a3 :: a4 :: a5 :: a6 :: a7 :: a8 :: a9 :: l := fun _ hx => .tail _ (.tail _ (.tail _ (.tail _ (.tail _ (.tail _ (.tail _ (.tail _ (.tail _ (.tail _ (hx))))))))))
theorem sub_11 {α : Type} {a0 a1 a2 a3 a4 a5 a6 a7 a8 a9 a10 : α} {l : List α} : ∀ x ∈ l, x ∈ a0 :: a1 :: a2 :: a3 :: a4 :: a5 :: a6 :: a7 :: a8 :: a9 :: a10 :: l := fun _ hx => .tail _ (.tail _ (.tail _ (.tail _ (.tail _ (.tail _ (.tail _ (.tail _ (.tail _ (.tail _ (.tail _ (hx)))))))))))
theorem sub_17 {α : Type} {a0 a1 a2 a3 a4 a5 a6 a7 a8 a9 a10 a11 a12 a13 a14 a15 a16 : α} {l : List α} : ∀ x ∈ l, x ∈ a0 :: a1 :: a2 :: a3 :: a4 :: a5 :: a6 :: a7 :: a8 :: a9 :: a10 :: a11 :: a12 :: a13 :: a14 :: a15 :: a16 :: l := fun _ hx => .tail _ (.tail _ (.tail _ (.tail _ (.tail _ (.tail _ (.tail _ (.tail _ (.tail _ (.tail _ (.tail _ (.tail _ (.tail _ (.tail _ (.tail _ (.tail _ (.tail _ (hx)))))))))))))))))
theorem room_r0 {d a k f c b R : Nat} (h : d + a + k * (f + 1) < R) (e : c + b ≤ a + k) : d + c + b < R := by rw [Nat.mul_succ] at h; omega
theorem room_r1 {d a k f c R : Nat} (h : d + a + k * (f + 1) < R) (e : c ≤ k) : d + c + a + k * f < R := by rw [Nat.mul_succ] at h; omega
theorem mem_s {α : Type} {a z : α} {l : List α} (h : z ∈ l) : z ∈ a :: l := .tail _ h
theorem mem_s4 {α : Type} {a b c d z : α} {l : List α} (h : z ∈ l) : z ∈ a :: b :: c :: d :: l := .tail _ (.tail _ (.tail _ (.tail _ h)))
theorem sub_s4 {α : Type} {a b c d : α} {l m : List α} (h : ∀ x ∈ l, x ∈ m) : ∀ x ∈ l, x ∈ a :: b :: c :: d :: m := fun x hx => .tail _ (.tail _ (.tail _ (.tail _ (h x hx))))
theorem al_0 {d : Addr} {l : List (Addr × Obj)} (h : AllLt d l) : ∀ p ∈ l, p.1 < d := allLt_mem h
theorem ne_all {d : Addr} {l : List (Addr × Obj)} (h : ∀ p ∈ l, p.1 < d) : ∀ p ∈ l, p.1 ≠ d := fun p hp => Nat.ne_of_lt (h p hp)
theorem ne_all1 {d : Nat} {l : List (Addr × Obj)} (h : ∀ p ∈ l, @LT.lt Nat _ p.1 d) : ∀ p ∈ l, p.1 ≠ d + 1 := fun p hp => Nat.ne_of_lt (Nat.lt_succ_of_lt (h p hp))
theorem ne_all2 {d : Nat} {l : List (Addr × Obj)} (h : ∀ p ∈ l, @LT.lt Nat _ p.1 d) : ∀ p ∈ l, p.1 ≠ d + 1 + 1 := ne_all1 fun p hp => Nat.lt_succ_of_lt (h p hp)
theorem al_1 {c0 : Prop} {d : Addr} {l : List (Addr × Obj)} (h : c0 ∧ AllLt d l) : ∀ p ∈ l, p.1 < d := allLt_mem h.2
theorem al_3 {c0 c1 c2 : Prop} {d : Addr} {l : List (Addr × Obj)} (h : c0 ∧ c1 ∧ c2 ∧ AllLt d l) : ∀ p ∈ l, p.1 < d := allLt_mem h.2.2.2
theorem al_6 {c0 c1 c2 c3 c4 c5 : Prop} {d : Addr} {l : List (Addr × Obj)} (h : c0 ∧ c1 ∧ c2 ∧ c3 ∧ c4 ∧ c5 ∧ AllLt d l) : ∀ p ∈ l, p.1 < d := allLt_mem h.2.2.2.2.2.2
theorem al_11 {c0 c1 c2 c3 c4 c5 c6 c7 c8 c9 c10 : Prop} {d : Addr} {l : List (Addr × Obj)} (h : c0 ∧ c1 ∧ c2 ∧ c3 ∧ c4 ∧ c5 ∧ c6 ∧ c7 ∧ c8 ∧ c9 ∧ c10 ∧ AllLt d l) : ∀ p ∈ l, p.1 < d := allLt_mem h.2.2.2.2.2.2.2.2.2.2.2
theorem an_0 {p r : Prop} (h : p ∧ r) : p := h.1
theorem an_1 {c0 p r : Prop} (h : c0 ∧ p ∧ r) : p := an_0 h.2
theorem an_2 {c0 c1 p r : Prop} (h : c0 ∧ c1 ∧ p ∧ r) : p := an_1 h.2
theorem an_3 {c0 c1 c2 p r : Prop} (h : c0 ∧ c1 ∧ c2 ∧ p ∧ r) : p := an_2 h.2
theorem an_4 {c0 c1 c2 c3 p r : Prop} (h : c0 ∧ c1 ∧ c2 ∧ c3 ∧ p ∧ r) : p := an_3 h.2
theorem an_5 {c0 c1 c2 c3 c4 p r : Prop} (h : c0 ∧ c1 ∧ c2 ∧ c3 ∧ c4 ∧ p ∧ r) : p := an_4 h.2
theorem an_6 {c0 c1 c2 c3 c4 c5 p r : Prop} (h : c0 ∧ c1 ∧ c2 ∧ c3 ∧ c4 ∧ c5 ∧ p ∧ r) : p := an_5 h.2
theorem an_7 {c0 c1 c2 c3 c4 c5 c6 p r : Prop} (h : c0 ∧ c1 ∧ c2 ∧ c3 ∧ c4 ∧ c5 ∧ c6 ∧ p ∧ r) : p := an_6 h.2
theorem an_8 {c0 c1 c2 c3 c4 c5 c6 c7 p r : Prop} (h : c0 ∧ c1 ∧ c2 ∧ c3 ∧ c4 ∧ c5 ∧ c6 ∧ c7 ∧ p ∧ r) : p := an_7 h.2
theorem an_9 {c0 c1 c2 c3 c4 c5 c6 c7 c8 p r : Prop} (h : c0 ∧ c1 ∧ c2 ∧ c3 ∧ c4 ∧ c5 ∧ c6 ∧ c7 ∧ c8 ∧ p ∧ r) : p := an_8 h.2
theorem an_10 {c0 c1 c2 c3 c4 c5 c6 c7 c8 c9 p r : Prop} (h : c0 ∧ c1 ∧ c2 ∧ c3 ∧ c4 ∧ c5 ∧ c6 ∧ c7 ∧ c8 ∧ c9 ∧ p ∧ r) : p := an_9 h.2
theorem lt_ss {a b : Nat} (h : a < b) : a < b + 1 + 1 := Nat.lt_succ_of_lt (Nat.lt_succ_of_lt h)
theorem ne_s12 {a : Nat} : a + 1 ≠ a + 1 + 1 := Nat.ne_of_lt (Nat.lt_succ_self _)
theorem ne_s21 {a : Nat} : a + 1 + 1 ≠ a + 1 := Nat.ne_of_gt (Nat.lt_succ_self _)
noncomputable def StopAt (s : String) : Prop := True
theorem stop_at {s : String} {P : Prop} (h : StopAt s) (k : Stop P) : P := stop_out k
theorem execs_let {M : Model} {A : Around} {x9st : Stmt} {x9r : List Stmt} {env : Env} {Q : Flow → Shared → Prop} {E : Value → Shared → Prop} {s : Shared}
    (h : let qk : Flow → Shared → Prop := fun f s' => match f with | .next => wpAny M A (execs x9r env) Q E s' | f => Q f s'
      let ek := E
      wpAny M A (exec x9st env) qk ek s) : wpAny M A (execs (x9st :: x9r) env) Q E s := wpAny_execs_cons h
theorem room_z {x9n x9k x9m : Nat} (h : x9n + x9k < x9m) : x9n < x9m := Nat.lt_of_le_of_lt (Nat.le_add_right _ _) h
theorem le_add_t {x9a x9k x9m x9N : Nat} (h : x9a ≤ x9m) (d : x9m + x9k ≤ x9N) : x9a + x9k ≤ x9N := Nat.le_trans (Nat.add_le_add_right h _) d
theorem le_t {x9a x9m x9N : Nat} (h : x9a ≤ x9m) (d : x9m ≤ x9N) : x9a ≤ x9N := Nat.le_trans h d
theorem lt_t {x9a x9m x9N : Nat} (h : x9a ≤ x9m) (d : x9m < x9N) : x9a < x9N := Nat.lt_of_le_of_lt h d
theorem lt_tt {x9a x9m x9N : Nat} (h : x9a < x9m) (d : x9m ≤ x9N) : x9a < x9N := Nat.lt_of_lt_of_le h d
theorem news_mid {h₀ h : Heap} {L : Addr} {x a b c d e t1 t2 t3 : Addr × Obj} {l : List (Addr × Obj)} (N : News h₀ L h (x :: a :: b :: c :: d :: e :: t1 :: t2 :: t3 :: l)) : News h₀ L h (a :: b :: c :: d :: e :: l) :=
  fun p hp => N p (sub_cons mem_1 (sub_cons mem_2 (sub_cons mem_3 (sub_cons mem_4 (sub_cons mem_5 sub_9)))) p hp)
theorem news_rot3 {h₀ h : Heap} {L : Addr} {x a b c : Addr × Obj} {r : List (Addr × Obj)} (N : News h₀ L h (x :: a :: b :: c :: r)) : News h₀ L h (a :: b :: c :: x :: r) :=
  fun p hp => N p (sub_cons mem_1 (sub_cons mem_2 (sub_cons mem_3 (sub_cons mem_0 fun x hx => lift_4 hx))) p hp)
theorem news_mid2 {h₀ h : Heap} {L : Addr} {x1 x2 x3 x4 x5 a b c d e f q1 q2 q3 q4 q5 : Addr × Obj} {l : List (Addr × Obj)} (N : News h₀ L h (x1 :: x2 :: x3 :: x4 :: x5 :: a :: b :: c :: d :: e :: f :: q1 :: q2 :: q3 :: q4 :: q5 :: l)) : News h₀ L h (a :: b :: c :: d :: e :: f :: l) :=
  fun p hp => N p ((sub_cons mem_5 (sub_cons mem_6 (sub_cons mem_7 (sub_cons mem_8 (sub_cons mem_9 (sub_cons mem_10 fun x hx => lift_8 (lift_8 hx))))))) p hp)
end Mine.Internal
end PartSLM
section PartPT
open PySem PySem.W PyProof.Rows PyProof.Rows.LCg
set_option maxHeartbeats 2000000
namespace Mine.Internal
theorem put_rd {w : World} (wr da ds ns pm ps : Nat) (rs rd rd2 : Bool) (tz : Nat → Tok) (en : Nat) (u : Tok) :
  (putL (Str.ofString "_root_done") (PyData.keyHash w.params (Str.ofString "_root_done")) (.str (Str.ofString "_root_done") u) (Value.bool rd2) (tgtL w wr da ds ns pm ps rs rd tz), putN (Str.ofString "_root_done") (tgtL w wr da ds ns pm ps rs rd tz) en) = (((tgtL w wr da ds ns pm ps rs rd2 tz) : List DictEntry), en) := by
  with_unfolding_all rfl
theorem put_rs {w : World} (wr da ds ns pm ps : Nat) (rs rd : Bool) (tz : Nat → Tok) (en : Nat) (u : Tok) :
  (putL (Str.ofString "_root_seen") (PyData.keyHash w.params (Str.ofString "_root_seen")) (.str (Str.ofString "_root_seen") u) (Value.bool true) (tgtL w wr da ds ns pm ps rs rd tz), putN (Str.ofString "_root_seen") (tgtL w wr da ds ns pm ps rs rd tz) en) = (((tgtL w wr da ds ns pm ps true rd tz) : List DictEntry), en) := by
  with_unfolding_all rfl
end Mine.Internal
end PartPT
section PartP4
open PySem PySem.W PyProof.Rows
namespace Mine.Internal
noncomputable def wayO (lk : List (Nat × Nat)) : Nat → Nat → List Nat → Option (List Nat)
  | 0, _, _ => none
  | f + 1, x, r => if 1 < x then (parentOf lk x).bind fun y => wayO lk f y (x :: r) else some (x :: r)
noncomputable def stepO (lk : List (Nat × Nat)) (n a b : Nat) : Option Nat := (hungO lk 10 b a).bind fun v =>
  if v.1 = 0 then none else (primesN[v.1 - 1]?).bind fun p => if n / p = 0 then none else (primesN[n / p - 1]?).bind fun q => if v.1 < 1000 ∧ n < 100000 then some (v.1 * q) else none
noncomputable def foldO (lk : List (Nat × Nat)) : Nat → List Nat → Option Nat
  | n, [] => some n
  | n, a :: r => List.rec (motive := fun _ => Option Nat) (some n) (fun b _ _ => (stepO lk n a b).bind fun n' => foldO lk n' r) r
theorem foldO_n {lk : List (Nat × Nat)} {n : Nat} : foldO lk n [] = some n := rfl
theorem foldO_1 {lk : List (Nat × Nat)} {n x : Nat} : foldO lk n [x] = some n := rfl
noncomputable def rehungO (lk : List (Nat × Nat)) (goal n : Nat) : Option Nat := match wayO lk 10 goal [] with
  | some w => if w.length ≤ 10 then foldO lk n w else none
  | none => none
theorem wayO_stop {lk : List (Nat × Nat)} {f x : Nat} {r w : List Nat} (h : wayO lk (f + 1) x r = some w) (hx : ¬ 1 < x) : w = x :: r := (Option.some.inj ((if_neg hx).symm.trans h)).symm
theorem wayO_go {lk : List (Nat × Nat)} {f x : Nat} {r w : List Nat} (h : wayO lk f x r = some w) (hx : 1 < x) : ∃ g y, f = g + 1 ∧ parentOf lk x = some y ∧ wayO lk g y (x :: r) = some w := by
  cases f with
  | zero => cases h
  | succ g => exact bind_inv ((if_pos hx).symm.trans h) fun y hy h => ⟨g, y, rfl, hy, h⟩
theorem foldO_step {lk : List (Nat × Nat)} {n n' : Nat} {w : List Nat} {k : Nat} (h : foldO lk n (w.drop k) = some n') (hk : k + 1 < w.length) :
    ∃ a b n2, w[k]? = some a ∧ w[k + 1]? = some b ∧ stepO lk n a b = some n2 ∧ foldO lk n2 (w.drop (k + 1)) = some n' := by
  have e1 : w.drop k = w[k] :: w[k + 1] :: w.drop (k + 2) := by
    rw [List.drop_eq_getElem_cons (Nat.lt_of_succ_lt hk), List.drop_eq_getElem_cons hk]
  have e2 : w.drop (k + 1) = w[k + 1] :: w.drop (k + 2) := by rw [List.drop_eq_getElem_cons hk]
  rw [e1] at h
  exact bind_inv (o := stepO lk n w[k] w[k + 1]) h fun n2 hs h => ⟨w[k], w[k + 1], n2, List.getElem?_eq_getElem _, List.getElem?_eq_getElem _, hs, by rw [e2]; exact h⟩
theorem foldO_end {lk : List (Nat × Nat)} {n n' : Nat} {w : List Nat} {k : Nat} (h : foldO lk n (w.drop k) = some n') (hk : w.length ≤ k + 1) : n = n' := by
  have : w.drop k = [] ∨ ∃ x, w.drop k = [x] := by
    have hl : (w.drop k).length ≤ 1 := by rw [List.length_drop]; exact Nat.sub_le_iff_le_add'.mpr hk
    cases hd : w.drop k with
    | nil => exact .inl rfl
    | cons x r =>
      cases r with
      | nil => exact .inr ⟨x, rfl⟩
      | cons y r => rw [hd] at hl; exact absurd (Nat.le_of_succ_le_succ hl) (Nat.not_succ_le_zero _)
  rcases this with e | ⟨x, e⟩
  · rw [e, foldO_n] at h; exact Option.some.inj h
  · rw [e, foldO_1] at h; exact Option.some.inj h
theorem stepO_split {lk : List (Nat × Nat)} {n a b n2 : Nat} (h : stepO lk n a b = some n2) : ∃ v pg p q, hungO lk 10 b a = some (v, pg) ∧ 1 ≤ v ∧ primesN[v - 1]? = some p ∧ 1 ≤ n / p ∧ primesN[n / p - 1]? = some q ∧ n2 = v * q ∧ v < 1000 ∧ n < 100000 := by
  refine bind_inv h fun v hv h => bind_inv (if_inv h).2 fun p hp h' => bind_inv (if_inv h').2 fun q hq h'' => ?_
  by_cases hc : v.1 < 1000 ∧ n < 100000
  · exact ⟨v.1, v.2, p, q, hv, Nat.pos_of_ne_zero (if_inv h).1, hp, Nat.pos_of_ne_zero (if_inv h').1, hq, (Option.some.inj ((if_pos hc).symm.trans h'')).symm, hc⟩
  · cases (if_neg hc).symm.trans h''
end Mine.Internal
end PartP4
section PartSL
open PySem PySem.W PyProof.Rows
namespace Mine.Internal
theorem ssi_none (n : Nat) : Builtin.Str.strSliceIndices none (some 1) 1 n = Builtin.Str.strSliceIndices (some ((0 : Nat) : Int)) (some ((1 : Nat) : Int)) 1 n := by
  unfold Builtin.Str.strSliceIndices
  simp
  rw [show max (0 : Int) (min 0 (n : Int)) = 0 from by (first | decide | lia | omega)]
theorem slice1 (c : Nat) (r : List Nat) : Txt.slice (S (c :: r)) none (some 1) = S [c] := by
  have hl : (S (c :: r)).length = r.length + 1 := by simp [Str.length]
  have h := StrLaws.sliced_plain (S (c :: r)) (a := 0) (b := 1) (by (first | decide | lia | omega)) (by (first | decide | lia | omega))
  have h2 : (Builtin.Str.strSliceIndices (some ((0 : Nat) : Int)) (some ((1 : Nat) : Int)) 1 (S (c :: r)).length).filterMap ((S (c :: r)).cps[·]?) = [c] := by
    rw [h]; simp
  unfold Txt.slice
  rw [ssi_none]
  split
  · rename_i hq
    have hb : (Builtin.Str.strSliceIndices (some ((0 : Nat) : Int)) (some ((1 : Nat) : Int)) 1 (S (c :: r)).length) = [0] := by
      have := StrLaws.strSliceIndices_plain (a := 0) (b := 1) (len := (S (c :: r)).length) (by (first | decide | lia | omega)) (by (first | decide | lia | omega))
      rw [this]; rfl
    rw [hb, hl] at hq
    have : r = [] := by
      have : (1 == r.length + 1) = true := by simpa using hq
      have : 1 = r.length + 1 := by simpa using this
      exact List.eq_nil_of_length_eq_zero (by (first | decide | lia | omega))
    subst this; rfl
  · rw [h2]
end Mine.Internal
end PartSL
section PartSL2
open PySem PySem.W PyProof.Rows
set_option maxHeartbeats 2000000
namespace Mine.Internal
theorem ssi_far (p n : Nat) (h : n ≤ p) : Builtin.Str.strSliceIndices (some ((p : Nat) : Int)) (some ((p + 1 : Nat) : Int)) 1 n = [] := by
  unfold Builtin.Str.strSliceIndices sliceRange
  have e1 : max (0 : Int) (min (p : Int) (n : Int)) = n := by rw [Int.min_eq_right (Int.ofNat_le.mpr h)]; exact Int.max_eq_right (Int.natCast_nonneg n)
  have e2 : max (0 : Int) (min ((p + 1 : Nat) : Int) (n : Int)) = n := by rw [Int.min_eq_right (Int.ofNat_le.mpr (Nat.le_succ_of_le h))]; exact Int.max_eq_right (Int.natCast_nonneg n)
  have h1 : ¬ ((p : Int) < 0) := Int.not_lt.mpr (Int.natCast_nonneg p)
  have h2 : ¬ (((p + 1 : Nat) : Int) < 0) := Int.not_lt.mpr (Int.natCast_nonneg _)
  simp only [h1, h2, if_false, if_pos (by decide : (1 : Int) > 0), e1, e2, if_neg (Int.lt_irrefl _)]
  rfl
theorem slice_at (l : List Nat) (p : Nat) : Txt.slice (S l) (some (p : Int)) (some ((p : Int) + 1)) = S ((l.drop p).take 1) := by
  have hl : (S l).length = l.length := by simp [S, Str.length]
  rw [show ((p : Int) + 1) = ((p + 1 : Nat) : Int) from by (first | decide | lia | omega)]
  by_cases hp : p < l.length
  · have h := StrLaws.sliced_plain (S l) (a := p) (b := p + 1) (by (first | decide | lia | omega)) (by (first | decide | lia | omega))
    have hi := StrLaws.strSliceIndices_plain (a := p) (b := p + 1) (len := (S l).length) (by (first | decide | lia | omega)) (by (first | decide | lia | omega))
    unfold Txt.slice
    split
    · rename_i hq
      rw [hi, hl] at hq
      have h1 : l.length = 1 := by
        simp at hq
        (first | decide | lia | omega)
      obtain ⟨c, rfl⟩ := List.length_eq_one_iff.mp h1
      cases Nat.lt_one_iff.mp hp
      rfl
    · rw [h]
      simp [S]
  · have e := ssi_far p (S l).length (by (first | decide | lia | omega))
    unfold Txt.slice
    rw [e]
    rw [List.drop_eq_nil_of_le (by (first | decide | lia | omega))]
    split
    · rename_i hq
      have : l = [] := by
        have : 0 = l.length := by simpa [hl] using hq
        exact List.eq_nil_of_length_eq_zero this.symm
      subst this
      rfl
    · rfl
end Mine.Internal
end PartSL2
section PartTD
open PySem PySem.W PyProof.Rows
set_option maxHeartbeats 2000000
namespace Mine.Internal
noncomputable def nsKvs : List (Str × Value) := [(Str.ofString "http://www.w3.org/XML/1998/namespace", .str (Str.ofString "xml") 402), (Str.ofString "http://www.w3.org/1999/xhtml", .str (Str.ofString "html") 404), (Str.ofString "http://www.w3.org/1999/02/22-rdf-syntax-ns#", .str (Str.ofString "rdf") 406), (Str.ofString "http://schemas.xmlsoap.org/wsdl/", .str (Str.ofString "wsdl") 408), (Str.ofString "http://www.w3.org/2001/XMLSchema", .str (Str.ofString "xs") 410), (Str.ofString "http://www.w3.org/2001/XMLSchema-instance", .str (Str.ofString "xsi") 412), (Str.ofString "http://purl.org/dc/elements/1.1/", .str (Str.ofString "dc") 414)]
noncomputable def nsEnt (P : Params) (x : Str × Tok × Value) : DictEntry := { hash := PyData.keyHash P x.1, key := .str x.1 x.2.1, val := x.2.2 }
noncomputable def nsToks : List Tok := [401, 403, 405, 407, 409, 411, 413]
theorem nsmap_at {prog : Program} {w : World} {h : Heap} (X : (hd.heap_39 w.params).In h) : h.DictAt (strKind prog w) 93 nsKvs 7 := by
  have h93 : h.get? 93 = some { cls := .type "dict", data := .dict ((nsKvs.zip nsToks).map fun p => nsEnt w.params (p.1.1, p.2, p.1.2)).toArray 7 } := X 93 _ (by rfl)
  refine ⟨_, _, h93, ⟨rfl, rfl, rfl⟩, rfl, ?_, ?_, by decide +kernel⟩
  · intro e he
    rw [List.mem_toArray, List.mem_map] at he
    show (let zG : Prop := _; zG)
    intro zG
    obtain ⟨p, -, rfl⟩ := he
    (try k_unmd); k_unfold
    exact ⟨p.1.1, strKind_is prog w _ _, rfl⟩
  · show Pairs (strKind prog w) (List.map _ _) nsKvs
    have go : ∀ (l : List (Str × Value)) (ts : List Tok), l.length = ts.length → Pairs (strKind prog w) ((l.zip ts).map fun p => nsEnt w.params (p.1.1, p.2, p.1.2)) l := by
      intro l
      induction l with
      | nil => intro ts _; exact .nil
      | cons a r ih =>
        intro ts hl
        cases ts with
        | nil => cases hl
        | cons t ts => exact .cons (strKind_is prog w _ _) rfl (ih ts (by simpa using hl))
    exact go _ _ rfl
section
variable {prog : Program} {w : World} {A : Around} {E : Value → Shared → Prop} {s : Shared} {h₀ : Heap} {L : Nat} {m : Str → Option Value} {news : List (Addr × Obj)}
theorem nsmap_items {pl : Sem Bool} {Q : Value × List Value → Shared → Prop} (F : Fr h₀ L s.heap m) (X : (hd.heap_39 w.params).In h₀) (h : Q (.builtin "dict.items", [.ref 93]) s) :
    wpAny (model prog w) A (getMethod (.ref 93) (Str.ofString "items") pl) Q E s := by
  have hD : s.heap.DictAt (strKind prog w) 93 nsKvs 7 := nsmap_at (X.keeps F.keep)
  exact getMethod_builtin hD.dictOf.typeIs PySem.F.plainAttrs_dict PySem.F.slot_dict_items PySem.F.type_dict_items hD.dictOf.mapOf.noDict h
theorem nsmap_call {Q : Value → Shared → Prop} (F : Fr h₀ L s.heap m) (N : News h₀ L s.heap news) (X : (hd.heap_39 w.params).In h₀)
    (h : ∀ (D : Addr) h', Fr h₀ L h' m → News h₀ L h' ((D, { cls := .type "dict_items", data := .fields #[.ref 93] }) :: news) → (∀ q ∈ news, q.1 < D) → Q (.ref D) { s with heap := h' }) :
    wpAny (model prog w) A (call (.builtin "dict.items") [.ref 93]) Q E s := by
  have hD : s.heap.DictAt (strKind prog w) 93 nsKvs 7 := nsmap_at (X.keeps F.keep)
  exact call_meetsIn PySem.F.slot_dict_items hD.dictOf.typeIs PySem.F.entry_dict_items (PySem.F.args_dict_items_1 _) (meets_dict_items (strKind prog w) 93 (by decide)) ⟨⟨nsKvs, hD.dictOf⟩, h _ _ (F.push _) (News.push F N _) fun q hq => Heap.lt_size (N q hq).1⟩
theorem nsmap_list {v : Addr} {Q : Value → Shared → Prop} (hh : A.handled = none) (F : Fr h₀ L s.heap m) (N : News h₀ L s.heap ((v, { cls := .type "dict_items", data := .fields #[.ref 93] }) :: news)) (X : (hd.heap_39 w.params).In h₀)
    (h : ∀ (D : Addr) o h' tk, Fr h₀ L h' m → News h₀ L h' ((D, o) :: news) → (∀ q ∈ news, q.1 < D) → Q (.ref D) { s with heap := h', toks := tk }) :
    wpAny (model prog w) A (call (.type "list") [.ref v]) Q E s := by
  have hD : s.heap.DictAt (strKind prog w) 93 nsKvs 7 := nsmap_at (X.keeps F.keep)
  have zv := N _ (.head _)
  refine kdx_call (knd := strKind prog w) hh ⟨_, zv.1, rfl, rfl⟩ hD (by rw [sizeLine_eq]; decide) fun h' tk acc c as hk hS hl hG hacc => ?_
  have hLs : L < s.heap.objs.size := F.ns.lt
  refine h _ { cls := .type "list", dict := none, data := .seq acc c, slots := #[] } h' tk (F.keeps hk) (fun p hp => ?_) fun q hq => Heap.lt_size (N q (.tail _ hq)).1
  rcases List.mem_cons.mp hp with rfl | hp
  · exact ⟨hS, Nat.ne_of_gt hLs, Heap.get?_none_of_le (Nat.le_trans F.above (Nat.le_of_lt hLs))⟩
  · exact ⟨hk _ _ (N p (.tail _ hp)).1, (N p (.tail _ hp)).2⟩
end
end Mine.Internal
end PartTD
section PartG1
open PySem PySem.W PyProof.Rows
set_option maxHeartbeats 2000000
namespace Mine.Internal
section
variable {prog : Program} {w : World} {A : Around} {R : GenEnd} {Y : Protocol} {n : Nat} {s₀ : Shared} {c : Code} {fs : List Frame} {s : Shared} {env : Env}
  {K : Flow → Sem Fin} {H : Value → Sem Fin} {gd : Bool → Bool} {lv : List Value → List Value}
noncomputable abbrev ownBack (env : Env) (K : Flow → Sem Fin) (H : Value → Sem Fin) (gd : Bool → Bool) (lv : List Value → List Value) : Result → Sem Fin := fun r => ((match r with | .ok f => (.pure f : Sem Flow) | .error e => .raise e).onRaise fun (x : Value) => do
        if (← field x 1) == Value.none then unsupported "frame.own-activation:exception-without-traceback"
        setFlight x env.frame).wrap K H gd lv
theorem seg_For {target iter : Expr} {body orelse : List Stmt} {pos : Pos}
    (h : wpAny (model prog w) (A.over c fs) (eval iter env) (fun xv s₁ => wpAny (model prog w) (A.over c fs) (pyIter xv) (fun it s₂ =>
      ∀ p, Seg (model prog w) A R Y n s₀ (.forLoop target it body orelse env) ((model prog w).den (.forLoop target it body orelse env))
        (.ret (ownBack env K H gd lv) none (gd false) (lv []) c p [] :: fs) s₂) (fun x s' => Seg (model prog w) A R Y n s₀ c (H x) fs s') s₁) (fun x s' => Seg (model prog w) A R Y n s₀ c (H x) fs s') s)
    (hs : ∀ x, foldedSetIterable iter env x = pure x := by intro _; rfl) :
    Seg (model prog w) A R Y n s₀ c ((exec (.For target iter body orelse pos) env).wrap K H gd lv) fs s := by
  rw [exec_For]
  refine seg_bind_wrap (wpAny_standAt ?_)
  refine seg_bind_wrap (wpAny_mono h (fun xv s₁ h₁ => ?_) fun _ _ x => x)
  refine seg_bind_wrap (wpAny_of_eq (hs xv) ?_)
  refine seg_bind_wrap (wpAny_standAt ?_)
  refine seg_bind_wrap (wpAny_holding (wpAny_mono h₁ (fun it s₂ h₂ => ?_) fun _ _ x => x))
  exact seg_call h₂
noncomputable abbrev noteBack (env : Env) : Value → Sem Fin := fun e => (do noteFrame e env; theTreesLotGoes e : Sem Unit).wrap (fun _ => .raise e) .raise id id
noncomputable abbrev forBack (target : Expr) (it : Value) (body orelse : List Stmt) (env : Env) : Flow → Sem Fin := fun f => match f with
            | .next | .cont => .pure (.again (.forLoop target it body orelse env))
            | .brk => .pure (.done .next)
            | .ret v => .pure (.done (.ret v))
theorem seg_forLoop {target : Expr} {it : Value} {body orelse : List Stmt} {E : Value → Shared → Prop} (hE : E = fun x s' => Seg (model prog w) A R Y n s₀ (.forLoop target it body orelse env) (noteBack env x) fs s')
    (h : wpAny (model prog w) (A.over (.forLoop target it body orelse env) fs) (pyNext it) (fun r s₁ => match r with
        | none => Seg (model prog w) A R Y n s₀ (.block orelse env) ((model prog w).den (.block orelse env)) fs s₁
        | some v => wpAny (model prog w) (A.over (.forLoop target it body orelse env) fs) (letOwnedTupleGo target it v) (fun _ s₂ =>
            wpAny (model prog w) (A.over (.forLoop target it body orelse env) fs) (assign target env v) (fun _ s₃ =>
              Seg (model prog w) A R Y n s₀ (.forLoop target it body orelse env) ((execs body env).wrap (forBack target it body orelse env) (noteBack env) id id) fs s₃) E s₂) E s₁) E s) :
    Seg (model prog w) A R Y n s₀ (.forLoop target it body orelse env) ((model prog w).den (.forLoop target it body orelse env)) fs s := by
  show Seg _ A R Y n s₀ _ ((forTurn target it body orelse env).onRaise (fun x => do noteFrame x env; theTreesLotGoes x)) fs s
  unfold forTurn
  rw [Sem.onRaise_eq_wrap]
  have e2 : (fun e => (do noteFrame e env; theTreesLotGoes e : Sem Unit).bind fun _ => (Sem.raise e : Sem Fin)) = noteBack env := by
    funext e; exact Sem.bind_eq_wrap _ _
  refine seg_bind_wrap (wpAny_standAt ?_)
  subst hE
  refine seg_bind_wrap (wpAny_onRaise (wpAny_mono h (fun r s₁ h₁ => ?_) fun x s' hx => wpAny_standAt ?_))
  · cases r with
    | none => exact seg_again rfl h₁
    | some v =>
      refine seg_bind_wrap (wpAny_mono h₁ (fun _ s₂ h₂ => ?_) fun x s' hx => ?_)
      · refine seg_bind_wrap (wpAny_mono h₂ (fun _ s₃ h₃ => ?_) fun x s' hx => ?_)
        · rw [Sem.bind_eq_wrap', Sem.wrap_wrap]
          rw [Sem.wrap_congr (execs body env) _ _ (K' := forBack target it body orelse env) (H' := noteBack env) (fun f => by cases f <;> rfl) (fun e => by rw [← e2]; rfl)]
          exact h₃
        · have := congrFun e2 x
          rw [← this] at hx
          exact hx
      · have := congrFun e2 x
        rw [← this] at hx
        exact hx
  · have := congrFun e2 x
    rw [← this] at hx
    exact hx
theorem seg_block_nil (h : Seg (model prog w) A R Y n s₀ (.block [] env) (.pure (.done .next)) fs s) : Seg (model prog w) A R Y n s₀ (.block [] env) ((model prog w).den (.block [] env)) fs s := h
theorem seg_If {test : Expr} {body orelse : List Stmt} {pos : Pos}
    (h : wpAny (model prog w) (A.over c fs) (isTrue test env (eval test env)) (fun b s₁ => Seg (model prog w) A R Y n s₀ c ((if b = true then execs body env else execs orelse env).wrap K H gd lv) fs s₁) (fun x s' => Seg (model prog w) A R Y n s₀ c (H x) fs s') s) :
    Seg (model prog w) A R Y n s₀ c ((exec (.If test body orelse pos) env).wrap K H gd lv) fs s := by
  rw [exec_If]
  refine seg_bind_wrap (wpAny_standAt ?_)
  exact seg_bind_wrap h
end
end Mine.Internal
end PartG1
section PartG2
open PySem PySem.W PyProof.Rows
set_option maxHeartbeats 2000000
namespace Mine.Internal
theorem entry_yf : entryFor table "proto.yield_from" = some Builtin.«proto.yield_from» := entryFor_of_fast (by kernel_rfl)
theorem listiter_no_close : typeLookup (.type "list_iterator") "close" = pure none := by rw [typeLookup_type, builtinLookup_eq_fast]; kernel_rfl
section
variable {prog : Program} {w : World} {A : Around} {R : GenEnd} {Y : Protocol} {n : Nat} {s₀ : Shared} {c : Code} {fs : List Frame} {s : Shared} {env : Env}
  {K : Flow → Sem Fin} {H : Value → Sem Fin} {gd : Bool → Bool} {lv : List Value → List Value}
noncomputable abbrev yfCode (it : Value) : Code := .builtin "proto.yield_from" ⟨[it, .bool false, .none], []⟩
theorem next_item {it l : Addr} {i : Nat} {items} {x : Value} {Q : Option Value → Shared → Prop} {E : Value → Shared → Prop} (hit : s.heap.IsListIter it l i)
    (hl : s.heap.IsList l items) (hx : items[i]? = some x)
    (hQ : ∀ h', h'.IsListIter it l (i + 1) → Heap.SameBut it s.heap h' → Q (some x) { s with heap := h' }) :
    wpAny (model prog w) A (callSpecial? (.ref it) "__next__") Q E s := by
  obtain ⟨o, ho, hc, hd⟩ := id hit
  show (let zG : Prop := _; zG)
  intro zG
  obtain ⟨ol, hol, _, nl, hdl⟩ := hl
  (try k_unmd); k_unfold
  refine wpAny_callSpecial?_slot (name := Str.ofString "__next__") hit.typeIs slot_listiter_next
    (wpAny_call_entry slot_listiter_next hit.typeIs entry_listiter_next ?_ (args_listiter_next _))
  show wpAny _ _ (field (.ref it) 0 >>= _) _ _ s
  refine wpAny_bind (wpAny_field ho hd (x := .ref l) rfl ?_)
  show wpAny _ _ (if (Value.ref l == Value.none) = true then _ else _) _ _ s
  refine if_no (show ¬ ((Value.ref l == Value.none) = true) from Bool.false_ne_true) ?_
  show wpAny _ _ (field (.ref it) 1 >>= _) _ _ s
  refine wpAny_bind (wpAny_field ho hd (x := .int i 0) rfl ?_)
  show wpAny _ _ (seqItems? (.ref l) >>= _) _ _ s
  refine wpAny_bind (wpAny_seqItems hol hdl ?_)
  simp only [Int.toNat_natCast, hx]
  refine wpAny_bind (wpAny_setField ho hd (by simp) (wpAny_pure ⟨x, rfl, (hQ _ ?_ (Heap.SameBut.update ..))⟩))
  exact ⟨_, Heap.get?_update_self _ ho (Obj.isFreed_of_fields (Obj.data_mapFields hd _)), (Obj.cls_mapFields ..).trans hc, by
    rw [Obj.data_mapFields hd]; simp [rawInt]⟩
theorem next_end {it l : Addr} {i : Nat} {items} {Q : Option Value → Shared → Prop} {E : Value → Shared → Prop} (hh : A.handled = none)
    (hit : s.heap.IsListIter it l i) (hl : s.heap.IsList l items) (hx : items[i]? = none)
    (hE : ∀ h' e a, Heap.ExtBut it s.heap h' → h'.get? e = some { cls := .type "StopIteration", data := .fields #[a, .none, .none, .none, .bool false, .none] } → E (.ref e) { s with heap := h' }) : wpAny (model prog w) A (callSpecial? (.ref it) "__next__") Q E s := by
  obtain ⟨o, ho, hc, hd⟩ := id hit
  show (let zG : Prop := _; zG)
  intro zG
  obtain ⟨ol, hol, _, nl, hdl⟩ := hl
  (try k_unmd); k_unfold
  refine wpAny_callSpecial?_slot (name := Str.ofString "__next__") hit.typeIs slot_listiter_next
    (wpAny_call_entry slot_listiter_next hit.typeIs entry_listiter_next ?_ (args_listiter_next _))
  show wpAny _ _ (field (.ref it) 0 >>= _) _ _ s
  refine wpAny_bind (wpAny_field ho hd (x := .ref l) rfl ?_)
  show wpAny _ _ (if (Value.ref l == Value.none) = true then _ else _) _ _ s
  refine if_no (show ¬ ((Value.ref l == Value.none) = true) from Bool.false_ne_true) ?_
  show wpAny _ _ (field (.ref it) 1 >>= _) _ _ s
  refine wpAny_bind (wpAny_field ho hd (x := .int i 0) rfl ?_)
  show wpAny _ _ (seqItems? (.ref l) >>= _) _ _ s
  refine wpAny_bind (wpAny_seqItems hol hdl ?_)
  simp only [Int.toNat_natCast, hx]
  refine wpAny_bind (wpAny_rule (wpAny_bind (wpAny_setField ho hd (by simp) ?_)))
  show wpAny _ _ (newExc (.type "StopIteration") [] >>= _) _ _ _
  refine wpAny_bind ?_
  simp only [newExc, newTuple]
  refine wpAny_bind (wpAny_newObj_type ?_ (by size_fits))
  refine wpAny_bind (m := firstArgMember _ _) (wpAny_of_eq (a := Value.none) (by first | rfl | (simp only [firstArgMember]; rfl)) ?_)
  refine wpAny_newObj_type ?_ (by size_fits)
  dsimp only
  refine wpAny_bind (wpAny_handled ?_)
  rw [show A.in1.handled = none from hh]
  refine wpAny_bind (wpAny_pure (wpAny_throw ?_))
  exact hE _ _ _ (((Heap.SameBut.update ..).extBut.push _).push _) (Heap.get?_push_size _ rfl)
end
end Mine.Internal
end PartG2
section PartG3
open PySem PySem.W PyProof.Rows
set_option maxHeartbeats 2000000
namespace Mine.Internal
section
variable {prog : Program} {w : World} {A : Around} {R : GenEnd} {Y : Protocol} {n : Nat} {s₀ : Shared} {c : Code} {fs : List Frame} {s : Shared} {env : Env}
theorem den_builtin {id : String} {args : Args} {b : Builtin} (hb : entryFor table id = some b) : (model prog w).den (.builtin id args) = b args := by
  show (match entryFor table id with | some b => b args | none => unsupported ((withoutEnding? id "#data").getD id)) = _
  rw [hb]
theorem den_yf (it : Value) : (model prog w).den (yfCode it) = Builtin.«proto.yield_from» ⟨[it, .bool false, .none], []⟩ := den_builtin entry_yf
theorem yf_end {it l : Addr} {i : Nat} {items} (hh : (A.over (yfCode (.ref it)) fs).handled = none) (hit : s.heap.IsListIter it l i) (hl : s.heap.IsList l items) (hx : items[i]? = none)
    (h : ∀ h', Heap.ExtBut it s.heap h' → Seg (model prog w) A R Y n s₀ (yfCode (.ref it)) (.pure (.done (.ret .none))) fs { s with heap := h' }) :
    Seg (model prog w) A R Y n s₀ (yfCode (.ref it)) ((model prog w).den (yfCode (.ref it))) fs s := by
  rw [den_yf]
  unfold Builtin.«proto.yield_from»
  dsimp only
  refine seg_bind (wpAny_pure ?_)
  rw [if_neg Bool.false_ne_true]
  refine seg_bind (wpAny_attempt ?_)
  refine wpAny_holding ?_
  refine if_yes (by rfl) ?_
  refine wpAny_bind (wpAny_rule ?_)
  refine wpAny_bind (next_end hh hit hl hx fun h' e a hb he => ?_)
  have hT : ∀ k, (⟨h', s.gens, s.drawn, k, s.os⟩ : Shared).TypeIs (.ref e) "StopIteration" := fun k => ⟨_, he, rfl⟩
  dsimp only
  refine seg_bind ?_
  unfold Builtin.Generator.endsTheTurnAsAValue Builtin.Generator.isStopAndMetaclass
  refine wpAny_bind (wpAny_bind (wpAny_typeOf (hT _) ?_))
  dsimp only
  refine wpAny_bind (wpAny_of_eq (a := true) isSubtype_stop ?_)
  refine wpAny_bind (wpAny_of_eq (a := Value.type "type") (by show typeOf (.type "StopIteration") = _; kernel_rfl) ?_)
  refine wpAny_pure ?_
  dsimp only
  refine if_no (by decide) ?_
  refine wpAny_pure ?_
  rw [if_pos rfl]
  refine seg_bind (wpAny_rule ?_)
  refine seg_bind (wpAny_field he rfl (x := .none) rfl ?_)
  exact h h' hb
theorem yf_first {it l : Addr} {i : Nat} {items} {x : Value} (hit : s.heap.IsListIter it l i) (hl : s.heap.IsList l items) (hx : items[i]? = some x)
    (hfs : splitAtGen fs = none) (hfg : fs.any Frame.guarded = false)
    (h : ∀ h', h'.IsListIter it l (i + 1) → Heap.SameBut it s.heap h' → ∀ kap : Resume → Shared → Prop, (∀ s'', s''.heap.IsListIter it l (i + 1) → Seg (model prog w) A R Y n s'' (yfCode (.ref it)) ((model prog w).den (yfCode (.ref it))) fs s'' → kap (.send .none) s'') → Y n s₀ x { s with heap := h' } kap) :
    Seg (model prog w) A R Y (n + 1) s₀ (yfCode (.ref it)) ((model prog w).den (yfCode (.ref it))) fs s := by
  rw [den_yf]
  unfold Builtin.«proto.yield_from»
  dsimp only
  refine seg_bind (wpAny_pure ?_)
  rw [if_neg Bool.false_ne_true]
  refine seg_bind (wpAny_attempt ?_)
  refine wpAny_holding ?_
  refine if_yes (by rfl) ?_
  refine wpAny_bind (wpAny_rule ?_)
  refine wpAny_bind (next_item hit hl hx fun h' hi' hs' => wpAny_pure ?_)
  have hT : ∀ k, (⟨h', s.gens, s.drawn, k, s.os⟩ : Shared).TypeIs (.ref it) "list_iterator" := fun k => hi'.typeIs
  dsimp only
  refine seg_bind (wpAny_typeOf (hT _) ?_)
  dsimp only
  refine seg_bind (wpAny_of_eq listiter_no_close ?_)
  refine seg_bind (wpAny_pure ?_)
  show (let zG : Prop := _; zG)
  intro zG
  obtain ⟨o, ho, hc, hd⟩ := id hi'
  have hsl : ∀ (m : Bool) (s2 : Shared) (Q : Unit → Shared → Prop) (E : Value → Shared → Prop) (A : Around), s2.heap.IsListIter it l (i + 1) → Q () s2 → wpAny (model prog w) A (Builtin.Generator.sleptOver (.ref it) m) Q E s2 := by
    intro m s2 Q E A hi2 hq
    show (let zG : Prop := _; zG)
    intro zG
    obtain ⟨o, ho, hc, hd⟩ := id hi2
    (try k_unmd); k_unfold
    unfold Builtin.Generator.sleptOver
    dsimp only
    refine wpAny_bind (wpAny_load ho ?_)
    refine if_yes (by rw [hc]; rfl) ?_
    exact wpAny_pure hq
  (try k_unmd); k_unfold
  refine seg_bind (hsl _ _ _ _ _ hi' ?_)
  refine seg_yield hfs rfl hfg (h h' hi' hs' _ fun s'' hi2 hseg => ?_)
  show Seg _ _ _ _ _ _ _ (Builtin.Generator.sleptOver (.ref it) false >>= _) _ _
  refine seg_bind (hsl _ _ _ _ _ hi2 ?_)
  exact seg_again (Code.quiet_builtin _ (by decide +kernel)) hseg
end
end Mine.Internal
end PartG3
section PartG4
open PySem PySem.W PyProof.Rows
set_option maxHeartbeats 2000000
namespace Mine.Internal
noncomputable def Stk (C base ax a0 : Nat) (items : Array Value) (tv : Value) (k : Nat) (h : Heap) : Prop :=
  (ax ≠ C ∧ ax < base ∧ h.IsList ax items) ∧ (a0 ≠ C ∧ a0 < base ∧ h.IsList a0 #[tv]) ∧ items.size = k + 1 ∧ items[0]? = some (.ref a0) ∧ ∀ i, i < k → ∃ e, items[k - i]? = some (.ref e) ∧ e ≠ C ∧ e < base ∧ h.IsList e #[]
noncomputable def KeepB (C base : Nat) (h h' : Heap) : Prop := ∀ (b : Nat) o, b < base → b ≠ C → h.get? b = some o → h'.get? b = some o
theorem Stk.mono {C base ax a0 : Nat} {items : Array Value} {tv : Value} {k : Nat} {h h' : Heap} (x : Stk C base ax a0 items tv k h) (y : KeepB C base h h') : Stk C base ax a0 items tv k h' := by
  show (let zG : Prop := _; zG)
  intro zG
  obtain ⟨⟨a1, a2, a3⟩, ⟨b1, b2, b3⟩, c, d, e⟩ := x
  (try k_unmd); k_unfold
  refine ⟨⟨a1, a2, a3.at fun o q => y _ o a2 a1 q⟩, ⟨b1, b2, b3.at fun o q => y _ o b2 b1 q⟩, c, d, fun i hi => ?_⟩
  show (let zG : Prop := _; zG)
  intro zG
  obtain ⟨e1, e2, e3, e4, e5⟩ := e i hi
  (try k_unmd); k_unfold
  exact ⟨e1, e2, e3, e4, e5.at fun o q => y _ o e4 e3 q⟩
noncomputable abbrev genP (C base : Nat) : Nat → Shared → Shared → Prop := fun n s₀ s₁ => n = 0 ∧ ∃ h tk, s₁ = { s₀ with heap := h, toks := tk } ∧ KeepB C base s₀.heap h
noncomputable abbrev genR (C base : Nat) : GenEnd := fun n s₀ r s₁ => r = .ok (.ret .none) ∧ genP C base n s₀ s₁
noncomputable abbrev genY (C base ax a0 : Nat) (items : Array Value) (tv : Value) (k : Nat) : Protocol := fun _ s₀ v s kap => v = tv ∧ ∃ h tk, ∃ Ir Il : Nat, ∃ oC oI oL, s = { s₀ with heap := h, toks := tk } ∧ KeepB C base s₀.heap h ∧ base ≤ Ir ∧ base ≤ Il ∧ h.get? C = some oC ∧ h.get? Ir = some oI ∧ h.get? Il = some oL ∧
  ∀ s'', s''.heap.get? C = some oC → s''.heap.get? Ir = some oI → s''.heap.get? Il = some oL → Stk C base ax a0 items tv k s''.heap → kap (.send .none) s''
section
variable {prog : Program} {w : World} {A : Around} {s₀ : Shared} {c : Code} {fs : List Frame} {s : Shared} {env : Env} {p1 p2 p3 p4 p5 p6 p7 p8 p9 p10 : Pos}
  {base ax a0 : Nat} {items : Array Value} {tv : Value} {k : Nat}
noncomputable abbrev nsBody (p5 p6 p7 p8 p9 : Pos) : List Stmt := [.If (.Name (Str.ofString "namespaces") p5) [.Expr (.YieldFrom (.Name (Str.ofString "namespaces") p6) p7) p8] [] p9]
theorem seg_bind_in {R : GenEnd} {Y : Protocol} {n : Nat} {α β : Type} {m : Sem α} {f : α → Sem β} {K : β → Sem Fin} {H : Value → Sem Fin} {gd : Bool → Bool} {lv : List Value → List Value}
    (h : Seg (model prog w) A R Y n s₀ c (m.wrap (fun a => (f a).wrap K H gd lv) H gd lv) fs s) : Seg (model prog w) A R Y n s₀ c ((m >>= f).wrap K H gd lv) fs s := by
  rw [Sem.bind_eq_wrap', Sem.wrap_wrap]; exact h
theorem seg_rev {Ir : Nat} (hnl : env.kindOf (Str.ofString "namespaces") = some .local) (hk : env.scope.kind = .function) (hi : interactive env = false)
    (hfs : splitAtGen fs = none) (hfg : fs.any Frame.guarded = false) (hhd : ∀ c, (A.over c fs).handled = none) (hhd2 : ∀ c k2 l2 c2 p2, (A.over c (Frame.ret k2 none false l2 c2 p2 [] :: fs)).handled = none)
    (hend : ∀ s₀ h tk, KeepB env.locals base s₀.heap h → Seg (model prog w) A (genR env.locals base) (genY env.locals base ax a0 items tv k) 0 s₀ (.block [] env) (.pure (.done .next)) fs { s₀ with heap := h, toks := tk })
    (hC : env.locals < base) (hIr : base ≤ Ir) (hne : Stk env.locals base ax a0 items tv k s₀.heap) :
    ∀ (j i : Nat) (h : Heap) (tk : Nat) (m : Str → Option Value), k - i = j → i ≤ k → KeepB env.locals base s₀.heap h → h.IsRevIter Ir ax ((k - i : Nat) : Int) → h.Ns env.locals m →
      Seg (model prog w) A (genR env.locals base) (genY env.locals base ax a0 items tv k) 1 s₀ (.forLoop (.Name (Str.ofString "namespaces") p1) (.ref Ir) (nsBody p5 p6 p7 p8 p9) [] env)
        ((model prog w).den (.forLoop (.Name (Str.ofString "namespaces") p1) (.ref Ir) (nsBody p5 p6 p7 p8 p9) [] env)) fs { s₀ with heap := h, toks := tk } := by
  intro j
  induction j with
  | zero =>
    intro i h tk m hj hik hkb hrev hn
    show (let zG : Prop := _; zG)
    intro zG
    obtain rfl : i = k := Nat.le_antisymm hik (Nat.le_of_sub_eq_zero hj)
    have st := hne.mono hkb
    obtain ⟨⟨a1, a2, a3⟩, ⟨b1, b2, b3⟩, c1, d1, e1⟩ := id st
    rw [Nat.sub_self] at hrev
    (try k_unmd); k_unfold
    refine seg_forLoop rfl (wpAny_pyNext_rev_item (i := 0) hrev a3 d1 fun h1 hr1 hs1 => ?_)
    dsimp only
    have nIC : Ir ≠ env.locals := Nat.ne_of_gt (Nat.lt_of_lt_of_le hC hIr)
    refine wpAny_of_eq (show letOwnedTupleGo _ _ _ = pure () from rfl) ?_
    refine wpAny_assign_Name (wpAny_storeName_local hnl (hn.sameBut hs1 (Ne.symm nIC)) (fun h2 hn2 hs2 => ?_) (by rw [hk]; rfl))
    have kb2 : KeepB env.locals base s₀.heap h2 := fun b o hb hbC eb => hs2.extBut b o hbC (hs1.extBut b o (Nat.ne_of_lt (Nat.lt_of_lt_of_le hb hIr)) (hkb b o hb hbC eb))
    have st2 := hne.mono kb2
    have hrev2 : h2.IsRevIter Ir ax (-1) := by
      have e9 : ((0 : Nat) : Int) - 1 = -1 := rfl
      rw [e9] at hr1
      exact hr1.at fun o q => hs2.extBut Ir o nIC q
    have haL : h2.IsList a0 #[tv] := st2.2.1.2.2
    refine seg_execs_cons (seg_If (isTrue_plain (wpAny_Name (wpAny_loadName_local hk hnl hn2 (by simp) (wpAny_truthy_list haL (by simp) ?_)))))
    show Seg _ _ _ _ _ _ _ (Sem.wrap _ _ _ _ (if (true : Bool) = true then _ else _)) _ _
    rw [if_pos rfl]
    refine seg_execs_cons ?_
    rw [exec_Expr env _ _ hi rfl]
    refine seg_bind_wrap (wpAny_standAt ?_)
    rw [arm_eval_YieldFrom]
    refine seg_bind_in (seg_bind_wrap (wpAny_Name (wpAny_loadName_local (v := .ref a0) hk hnl hn2 (by simp) (seg_bind_wrap (wpAny_standAt ?_)))))
    unfold yieldFrom
    refine seg_bind_wrap (wpAny_typeOf (T := "list") (show Shared.TypeIs ⟨h2, _, _, _, _⟩ (.ref a0) "list" from haL.typeIs) ?_)
    rw [if_neg (by decide)]
    refine seg_bind_wrap (wpAny_holding (wpAny_pyIter_list haL ?_))
    refine seg_bind_in (seg_call fun p => ?_)
    have hla : a0 < h2.objs.size := by obtain ⟨o, q, _⟩ := haL; exact Heap.lt_size q
    have hlIr : Ir < h2.objs.size := by obtain ⟨o, q, _⟩ := hrev2; exact Heap.lt_size q
    have hlC : env.locals < h2.objs.size := hn2.lt
    refine yf_first (l := a0) (i := 0) (items := #[tv]) ⟨_, Heap.get?_push_size _ rfl, rfl, rfl⟩ (haL.push _) rfl ?_ ?_ ?_
    · simp [splitAtGen, hfs]
    · simp [Frame.guarded, hfg]
    · intro h3 hit3 hs3 kap hkap
      have hIl : base ≤ h2.objs.size := Nat.le_trans hIr (Nat.le_of_lt hlIr)
      have up3 : ∀ b o, b < h2.objs.size → h2.get? b = some o → h3.get? b = some o := fun b o hb e => hs3.extBut b o (Nat.ne_of_lt hb) (Heap.get?_push_of_some _ e)
      show (let zG : Prop := _; zG)
      intro zG
      obtain ⟨oC, hoC⟩ : ∃ oC, h2.get? env.locals = some oC := by obtain ⟨o, _, _, q, _⟩ := id hn2; exact ⟨o, q⟩
      obtain ⟨oI, hoI, cI, dI⟩ := id hrev2
      obtain ⟨oL, hoL, cL, dL⟩ := id hit3
      have hnC : h3.Ns env.locals _ := hn2.at' fun o e => up3 _ o hlC e
      (try k_unmd); k_unfold
      refine ⟨rfl, h3, _, Ir, h2.objs.size, oC, oI, oL, rfl, fun b o hb hbC e => up3 b o (Nat.lt_of_lt_of_le hb hIl) (kb2 b o hb hbC e), hIr, hIl, up3 _ _ hlC hoC, up3 _ _ hlIr hoI, hoL, fun s'' gC gI gL gst => hkap s'' ⟨oL, gL, cL, dL⟩ ?_⟩
      have hl'' : s''.heap.IsList a0 #[tv] := gst.2.1.2.2
      refine yf_end (hhd2 _ _ _ _ _) (l := a0) (i := 1) (items := #[tv]) ⟨oL, gL, cL, dL⟩ hl'' rfl fun h4 hb4 => ?_
      refine seg_leaf (.ok (.ret .none)) ?_
      show Seg _ _ _ _ _ _ _ (.pure (.again _)) _ _
      refine seg_again rfl ?_
      have hrev4 : h4.IsRevIter Ir ax (-1) := ⟨oI, hb4 _ _ (Nat.ne_of_lt hlIr) gI, cI, dI⟩
      refine seg_forLoop rfl (wpAny_pyNext_rev_end (hhd _) hrev4 fun h5 hb5 => ?_)
      dsimp only
      refine seg_block_nil ?_
      refine hend s'' h5 _ fun b o hb hbC e => hb5 b o (Nat.ne_of_lt (Nat.lt_of_lt_of_le hb hIr)) (hb4 b o (Nat.ne_of_lt (Nat.lt_of_lt_of_le hb hIl)) e)
  | succ j ih =>
    intro i h tk m hj hik hkb hrev hn
    have st := hne.mono hkb
    show (let zG : Prop := _; zG)
    intro zG
    obtain ⟨⟨a1, a2, a3⟩, ⟨b1, b2, b3⟩, c1, d1, e1⟩ := st
    obtain ⟨e, he1, he2, he3, he4⟩ := e1 i (Nat.lt_of_sub_eq_succ hj)
    (try k_unmd); k_unfold
    refine seg_forLoop rfl (wpAny_pyNext_rev_item (i := k - i) hrev a3 he1 fun h1 hr1 hs1 => ?_)
    dsimp only
    have nIC : Ir ≠ env.locals := Nat.ne_of_gt (Nat.lt_of_lt_of_le hC hIr)
    refine wpAny_of_eq (show letOwnedTupleGo _ _ _ = pure () from rfl) ?_
    refine wpAny_assign_Name (wpAny_storeName_local hnl (hn.sameBut hs1 (Ne.symm nIC)) (fun h2 hn2 hs2 => ?_) (by rw [hk]; rfl))
    have kb2 : KeepB env.locals base s₀.heap h2 := fun b o hb hbC eb => hs2.extBut b o hbC (hs1.extBut b o (Nat.ne_of_lt (Nat.lt_of_lt_of_le hb hIr)) (hkb b o hb hbC eb))
    have heL : h2.IsList e #[] := (he4.at fun o q => hs1.extBut e o (Nat.ne_of_lt (Nat.lt_of_lt_of_le he3 hIr)) q).at fun o q => hs2.extBut e o he2 q
    refine seg_execs_cons (seg_If (isTrue_plain (wpAny_Name (wpAny_loadName_local hk hnl hn2 (by simp) (wpAny_truthy_list heL (by simp) ?_)))))
    show Seg _ _ _ _ _ _ _ (Sem.wrap _ _ _ _ (if (false : Bool) = true then _ else _)) _ _
    rw [if_neg Bool.false_ne_true]
    refine seg_execs_nil (seg_execs_nil ?_)
    refine seg_again rfl (ih (i + 1) h2 _ _ (by rw [← Nat.sub_sub, hj]; rfl) (Nat.lt_of_sub_eq_succ hj) kb2 ?_ hn2)
    have e9 : ((k - (i + 1) : Nat) : Int) = ((k - i : Nat) : Int) - 1 := by
      rw [← Nat.sub_sub, hj]; exact (Int.add_sub_cancel (j : Int) 1).symm
    rw [e9]
    exact hr1.at fun o q => hs2.extBut Ir o nIC q
noncomputable abbrev genBody (p1 p2 p3 p4 p5 p6 p7 p8 p9 p10 : Pos) : List Stmt := [.For (.Name (Str.ofString "namespaces") p1) (.Call (.Name (Str.ofString "_reversed") p2) [.Name (Str.ofString "ns_stack") p3] [] p4) (nsBody p5 p6 p7 p8 p9) [] p10]
theorem seg_gen {m : Str → Option Value} (hnl : env.kindOf (Str.ofString "namespaces") = some .local) (hrl : env.kindOf (Str.ofString "_reversed") = some .local) (hsl : env.kindOf (Str.ofString "ns_stack") = some .local)
    (hk : env.scope.kind = .function) (hi : interactive env = false) (hh : A.handled = none)
    (hC : env.locals < base) (hb : base ≤ s.heap.objs.size) (hne : Stk env.locals base ax a0 items tv k s.heap) (hn : s.heap.Ns env.locals m) (h1 : m (Str.ofString "_reversed") = some (.type "reversed")) (h2 : m (Str.ofString "ns_stack") = some (.ref ax)) :
    Seg (model prog w) A (genR env.locals base) (genY env.locals base ax a0 items tv k) 1 s (.func (genBody p1 p2 p3 p4 p5 p6 p7 p8 p9 p10) env) ((model prog w).den (.func (genBody p1 p2 p3 p4 p5 p6 p7 p8 p9 p10) env)) [] s := by
  refine seg_func (seg_execs_cons (seg_For ?_))
  have hl : s.heap.IsList ax items := hne.1.2.2
  refine wpAny_Call_NameR (wpAny_Name (wpAny_loadName_local (v := .type "reversed") hk hrl hn h1 ?_))
  rw [show backTo p4 (starEach [.Name (Str.ofString "ns_stack") p3] env) = [(false, eval (.Name (Str.ofString "ns_stack") p3) env)] from rfl]
  refine PySem.callWith_type rfl (Calls.evalArgs_plain (Calls.spliced_cons (wpAny_Name (wpAny_loadName_local (v := .ref ax) hk hsl hn h2 (Calls.spliced_nil ?_)))))
  refine call_reversed_list hl ?_
  have hsz : (items.size : Int) - 1 = ((k : Nat) : Int) := by rw [hne.2.2.1]; exact Int.add_sub_cancel (k : Int) 1
  refine wpAny_pyIter_revIter (i := (k : Int)) ⟨_, Heap.get?_push_size _ rfl, rfl, by rw [← hsz]; rfl⟩ ?_
  intro p
  refine seg_rev (s₀ := s) hnl hk hi (by rfl) (by rfl) (fun c => by exact hh) (fun c k2 l2 c2 p2 => by exact hh) ?_ hC (Ir := s.heap.objs.size) hb hne k 0 _ s.toks m rfl (Nat.zero_le _) (fun b o _ _ e => Heap.get?_push_of_some _ e) ⟨_, Heap.get?_push_size _ rfl, rfl, by rw [Nat.sub_zero, ← hsz]; rfl⟩ (hn.at' fun o e => Heap.get?_push_of_some _ e)
  intro s₀ h tk hkb
  refine seg_leaf (.ok .next) ?_
  show Seg _ _ _ _ _ _ _ (.pure (.done (.ret .none))) _ _
  exact seg_end (.ok (.ret .none)) ⟨rfl, rfl, h, tk, rfl, hkb⟩
end
end Mine.Internal
end PartG4
section PartG5
open PySem PySem.W PyProof.Rows PyProof.Rows.LCg
set_option maxHeartbeats 2000000
namespace Mine.Internal
noncomputable def BareTo (a b : Array GenState) : Prop := AllBare a → AllBare b
theorem BareTo.refl (a : Array GenState) : BareTo a a := fun h => h
theorem BareTo.trans {a b c : Array GenState} (x : BareTo a b) (y : BareTo b c) : BareTo a c := fun h => y (x h)
theorem bareTo_gen {a b c : Array GenState} {k : Code} (x : GenOnly a.size (a.push (.fresh k)) b) (y : GenOnly a.size b c) (z : c[a.size]? = some .finished) : BareTo a c :=
  fun h => (GenOnlyQ.of (x.trans y) z rfl).bare (h.push rfl)
section
variable {prog : Program} {w : World} {A : Around} {E : Value → Shared → Prop} {s : Shared} {h₀ : Heap} {L : Nat} {m : Str → Option Value} {env : Env} {news : List (Addr × Obj)}
noncomputable def OneTurn (prog : Program) (w : World) (A : Around) (env : Env) (target : Expr) (body : List Stmt) (Q : Flow → Shared → Prop) (E : Value → Shared → Prop) (it : Value) (r : Option Value) (s₃ : Shared) : Prop := match r with
  | none => False
  | some v => wpAny (model prog w) A (letOwnedTupleGo target it v) (fun _ s₄ => wpAny (model prog w) A (assign target env v) (fun _ s₅ => wpAny (model prog w) A (execs body env) (fun f s₆ => match f with
      | .next | .cont => wpAny (model prog w) A (pyNext it) (fun r' s₇ => r' = none ∧ Q .next s₇) E s₆
      | .brk => Q .next s₆
      | .ret v => Q (.ret v) s₆) E s₅) E s₄) E s₃
theorem my_ForG {target iter : Expr} {body : List Stmt} {pos : Pos} {Q : Flow → Shared → Prop}
    (h : wpAny (model prog w) A (eval iter env) (fun xv s₁ => wpAny (model prog w) A (pyIter xv) (fun it s₂ => wpAny (model prog w) A (pyNext it) (OneTurn prog w A env target body Q E it) E s₂) E s₁) E s)
    (hs : ∀ x, foldedSetIterable iter env x = pure x := by intro _; rfl)
    (hE : PassesOwn (model prog w) A env E := by passes_own) :
    wpAny (model prog w) A (exec (.For target iter body [] pos) env) Q E s := by
  refine wpAny_For (wpAny_mono h (fun xv s₁ h₁ => wpAny_mono h₁ (fun it s₂ h₂ => ?_) fun _ _ e => e) fun _ _ e => e) hs
  refine codeAny_forLoop_any (fun k s' => match k with
    | 0 => wpAny (model prog w) A (pyNext it) (fun r' s₇ => r' = none ∧ Q .next s₇) E s'
    | _ + 1 => wpAny (model prog w) A (pyNext it) (OneTurn prog w A env target body Q E it) E s') ?_ 1 h₂
  intro k s' hk
  cases k with
  | zero =>
    refine wpAny_mono (wpAny_passesOwn hE hk) (fun r s₃ h₃ => ?_) fun _ _ x => x
    obtain ⟨rfl, hq⟩ := h₃
    exact wpAny_execs_nil hq
  | succ k =>
    refine wpAny_mono (wpAny_passesOwn hE hk) (fun r s₃ h₃ => ?_) fun _ _ x => x
    cases r with
    | none => exact h₃.elim
    | some v =>
      refine wpAny_mono (wpAny_passesOwn hE h₃) (fun _ s₄ h₄ => wpAny_mono (wpAny_passesOwn hE h₄) (fun _ s₅ h₅ => wpAny_mono (wpAny_passesOwn hE h₅) (fun f s₆ h₆ => ?_) fun _ _ x => x) fun _ _ x => x) fun _ _ x => x
      cases f with
      | next => exact ⟨0, by (first | decide | lia | omega), h₆⟩
      | cont => exact ⟨0, by (first | decide | lia | omega), h₆⟩
      | brk => exact h₆
      | ret v => exact h₆
theorem letgo_gen {elts : List Expr} {x1} {pos : Pos} {g I T : Nat} {Q : Unit → Shared → Prop} (hg : s.heap.IsGen I g) (hQ : Q () s) :
    wpAny (model prog w) A (letOwnedTupleGo (.Tuple elts x1 pos) (.ref I) (.ref T)) Q E s := by
  show (let zG : Prop := _; zG)
  intro zG
  obtain ⟨o, nm, qn, ho, hc, hd, _⟩ := hg
  (try k_unmd); k_unfold
  unfold letOwnedTupleGo
  refine wpAny_bind (wpAny_load ho ?_)
  rw [hc, hd]
  dsimp only
  rw [if_neg (by
    rw [show (["enumerate", "zip", "dict_itemiterator", "dict_reverseitemiterator", "odict_iterator", "itertools.zip_longest", "itertools.pairwise"] : List String).contains "generator" = false from by decide +kernel]
    simp)]
  exact wpAny_pure hQ
noncomputable abbrev genObj (g : Nat) (nm qn : Str) (t u : Tok) : Obj := { cls := .type "generator", data := .fields #[.int g 0, .str nm t, .str qn u] }
theorem genObj_isGen {h : Heap} {G g : Nat} {nm qn : Str} {t u : Tok} (e : h.get? G = some (genObj g nm qn t u)) : h.IsGen G g := ⟨_, _, _, e, rfl, rfl, rfl⟩
theorem gen_call {p : Program} {K : Frag} {loose : List Str} {mean : ExcName → Option Value} {mg mb : Str → Option Value} {Q : Value → Shared → Prop} {name qual : Str} {params : Arguments} {body : List Stmt} {scope : Scope} {dV kV doc pm cdv ct oc : Value} {an od : Option Addr} {osl : Array (Option Value)} {f : Addr} {args : List Value} {binds : List (Str × Value)}
    (F : Fr h₀ L s.heap m) (X₀ : K.In h₀) (N : News h₀ L s.heap news) (T : Top p loose mean mg mb h₀)
    (ho : K.lookup f = some ⟨oc, od, .func (fnOf name qual params body scope dV kV doc pm an cdv ct), osl⟩) (hcd : codeIn K cdv qual = true) (hroom : A.depth < recursionLimit)
    (hbind : BindsTo s (fnOf name qual params body scope dV kV doc pm an cdv ct) ⟨args, []⟩ binds) (hloc : ∀ y ∈ binds, scope.names.lookup y.1 = some .local)
    (h : ∀ (C : Nat) oC (G : Nat) h' tk t u, Fr h₀ L h' m → NsObj oC (fun y => binds.reverse.lookup y) → News h₀ L h' ((G, genObj s.gens.size name qual t u) :: (C, oC) :: news) → (∀ p ∈ news, p.1 < C) → C < G → L < C → G < h'.objs.size →
      Q (.ref G) { s with heap := h', toks := tk, gens := s.gens.push (.fresh (.func body (envOf qual scope C f cdv))) })
    (hco : scope.isCoroutine = false) (hgen : scope.isGenerator = true) (hk : scope.kind = .function)
    (hcell : ∀ x ∈ scope.names, x.2 ≠ .cell) : wpAny (model prog w) A (call (.ref f) args) Q E s := by
  refine wpAny_call (codeAny_call_generator hroom ((X₀.keeps F.keep) _ _ ho) rfl hco hgen rfl (codeRec_of (X₀.keeps F.keep) hcd) (hbind _ _ _ _ ?_))
  refine wpAny_newFunctionEnv hcell hloc (fun h₁ hns hsb => ⟨((T.nolimit).keeps F.keep).fresh _ hsb, ?_⟩) hk
  have hk₁ : ∀ b o, s.heap.get? b = some o → h₁.get? b = some o := fun b o e => hsb.extBut b o (Nat.ne_of_lt (Heap.lt_size e)) (Heap.get?_push_of_some _ e)
  show (let zG : Prop := _; zG)
  intro zG
  obtain ⟨oC, heC, hoC⟩ := ns_obj hns
  have hLs : L < s.heap.objs.size := F.ns.lt
  have hCs : s.heap.objs.size < h₁.objs.size := Heap.lt_size heC
  have n0 : ∀ a : Nat, s.heap.objs.size ≤ a → h₀.get? a = none := fun a ha => Heap.get?_none_of_le (Nat.le_trans F.above (Nat.le_trans (Nat.le_of_lt hLs) ha))
  (try k_unmd); k_unfold
  refine' h s.heap.objs.size oC h₁.objs.size _ _ (s.toks + binds.length) (s.toks + binds.length + 1) ((F.keeps hk₁).push _) hoC ?hN (fun p hp => Heap.lt_size (N p hp).1) hCs hLs (by rw [Heap.size_push]; exact Nat.lt_succ_self _)
  intro p hp
  rcases List.mem_cons.mp hp with rfl | hp
  · exact ⟨Heap.get?_push_size _ rfl, Nat.ne_of_gt (Nat.lt_trans hLs hCs), n0 _ (Nat.le_of_lt hCs)⟩
  rcases List.mem_cons.mp hp with rfl | hp
  · exact ⟨Heap.get?_push_of_some _ heC, Nat.ne_of_gt hLs, n0 _ (Nat.le_refl _)⟩
  · exact ⟨Heap.get?_push_of_some _ (hk₁ _ _ (N p hp).1), (N p hp).2⟩
noncomputable def LaterG (prog : Program) (w : World) (A : Around) (gs' : GenState) (C base ax a0 : Nat) (items : Array Value) (tv : Value) (k : Nat) (Ir Il : Nat) (oC oI oL : Obj) : Prop :=
  ∀ s'' : Shared, s''.heap.get? C = some oC → s''.heap.get? Ir = some oI → s''.heap.get? Il = some oL → Stk C base ax a0 items tv k s''.heap →
    gs'.Goes (model prog w) A.in1 (genR C base) (genY C base ax a0 items tv k) 0 (.send .none) s''
theorem gen_next1 {genv : Env} {C g G ax a0 k : Nat} {items : Array Value} {tv : Value} {mC : Str → Option Value} {oC og : Obj} {Q : Option Value → Shared → Prop} {p1 p2 p3 p4 p5 p6 p7 p8 p9 p10 : Pos}
    (hnl : genv.kindOf (Str.ofString "namespaces") = some .local) (hrl : genv.kindOf (Str.ofString "_reversed") = some .local) (hsl : genv.kindOf (Str.ofString "ns_stack") = some .local)
    (hk : genv.scope.kind = .function) (hi : interactive genv = false) (hh : A.handled = none) (hl : s.heap.NoLimit) (hroom : A.depth < recursionLimit)
    (F : Fr h₀ L s.heap m) (N : News h₀ L s.heap ((G, og) :: (C, oC) :: news)) (hG : ∀ h : Heap, h.get? G = some og → h.IsGen G g) (hoC : NsObj oC mC) (hgs : s.gens[g]? = some (.fresh (.func (genBody p1 p2 p3 p4 p5 p6 p7 p8 p9 p10) genv)))
    (hCe : genv.locals = C) (hCG : C < G) (hnC : ∀ p ∈ news, p.1 < C) (hst : Stk C s.heap.objs.size ax a0 items tv k s.heap) (hLC : L < C)
    (h1 : mC (Str.ofString "_reversed") = some (.type "reversed")) (h2 : mC (Str.ofString "ns_stack") = some (.ref ax))
    (h : ∀ h' tk gs' gg, ∀ Ir Il : Nat, ∀ oC' oI oL, Fr h₀ L h' m → News h₀ L h' ((Il, oL) :: (Ir, oI) :: (C, oC') :: (G, og) :: news) → s.heap.objs.size ≤ Ir → s.heap.objs.size ≤ Il → GenOnly g s.gens gg → gg[g]? = some gs' → LaterG prog w A gs' C s.heap.objs.size ax a0 items tv k Ir Il oC' oI oL → Q (some tv) { s with heap := h', toks := tk, gens := gg }) :
    wpAny (model prog w) A (pyNext (.ref G)) Q E s := by
  subst hCe
  have zG := N _ (.head _)
  have zC := N (genv.locals, oC) (.tail _ (.head _))
  have hCs : genv.locals < s.heap.objs.size := Heap.lt_size zC.1
  have hLs : L < s.heap.objs.size := F.ns.lt
  refine wpAny_pyNext_gen (n := 1) (P := genP genv.locals s.heap.objs.size) (Y := genY genv.locals s.heap.objs.size ax a0 items tv k) hh hl hroom (hG _ zG.1) hgs ⟨rfl, ?_⟩ ?_ ?_
  · exact seg_gen (s := s.setGen g .running) hnl hrl hsl hk hi hh hCs (Nat.le_refl _) hst (hoC.ns zC.1) h1 h2
  · rintro v s₁ gs' ⟨rfl, h', tk, Ir, Il, oC', oI, oL, rfl, hkb, hIr, hIl, gC, gI, gL, hlater⟩
    have n0 : ∀ a : Nat, s.heap.objs.size ≤ a → h₀.get? a = none := fun a ha => Heap.get?_none_of_le (Nat.le_trans F.above (Nat.le_trans (Nat.le_of_lt hLs) ha))
    have keep : ∀ b o, b ≠ genv.locals → s.heap.get? b = some o → h'.get? b = some o := fun b o hb e => hkb b o (Heap.lt_size e) hb e
    refine h h' tk gs' _ Ir Il oC' oI oL (fr_but F (fun b o hb e => keep b o (by simpa using hb) e) (Nat.ne_of_lt hLC) zC.2.2) (fun p hp => ?_) hIr hIl ?_ ?_ ?_
    · rcases List.mem_cons.mp hp with rfl | hp
      · exact ⟨gL, Nat.ne_of_gt (Nat.lt_of_lt_of_le hLs hIl), n0 _ hIl⟩
      rcases List.mem_cons.mp hp with rfl | hp
      · exact ⟨gI, Nat.ne_of_gt (Nat.lt_of_lt_of_le hLs hIr), n0 _ hIr⟩
      rcases List.mem_cons.mp hp with rfl | hp
      · exact ⟨gC, zC.2⟩
      rcases List.mem_cons.mp hp with rfl | hp
      · exact ⟨keep _ _ (Nat.ne_of_gt hCG) zG.1, zG.2⟩
      · exact ⟨keep _ _ (Nat.ne_of_lt (hnC p hp)) (N p (.tail _ (.tail _ hp))).1, (N p (.tail _ (.tail _ hp))).2⟩
    · exact (GenOnly.setGen s g .running).trans (GenOnly.setGen (s.setGen g .running) g gs')
    · exact setGen_self (gs := .running) (setGen_self hgs)
    · intro s'' e1 e2 e3 e4
      exact hlater s'' e1 e2 e3 e4
  · rintro s₁ ⟨h0, _⟩
    exact absurd h0 (by decide)
theorem gen_next2 {C base g G ax a0 k : Nat} {items : Array Value} {tv : Value} {gs' : GenState} {oC og oI oL : Obj} {Ir Il : Nat} {Q : Option Value → Shared → Prop}
    (hh : A.handled = none) (hl : s.heap.NoLimit) (hroom : A.depth < recursionLimit)
    (F : Fr h₀ L s.heap m) (N : News h₀ L s.heap ((Il, oL) :: (Ir, oI) :: (C, oC) :: (G, og) :: news)) (hG : ∀ h : Heap, h.get? G = some og → h.IsGen G g) (hgs : s.gens[g]? = some gs')
    (hL : LaterG prog w A gs' C base ax a0 items tv k Ir Il oC oI oL) (hnC : ∀ p ∈ news, p.1 < C) (hCb : C < base) (hst : Stk C base ax a0 items tv k s.heap) (hLC : L < C) (hb0 : h₀.objs.size ≤ C)
    (h : ∀ h' tk gg, GenOnly g s.gens gg → gg[g]? = some .finished → Fr h₀ L h' m → News h₀ L h' news → Q none { s with heap := h', toks := tk, gens := gg }) :
    wpAny (model prog w) A (pyNext (.ref G)) Q E s := by
  have zG := N (G, og) (.tail _ (.tail _ (.tail _ (.head _))))
  refine wpAny_pyNext_gen (n := 0) (P := genP C base) (Y := genY C base ax a0 items tv k) hh hl hroom (hG _ zG.1) hgs (hL (s.setGen g .running) (N (C, oC) (.tail _ (.tail _ (.head _)))).1 (N (Ir, oI) (.tail _ (.head _))).1 (N (Il, oL) (.head _)).1 hst) ?_ ?_
  · rintro v s₁ gs2 ⟨_, h', tk, Ir2, Il2, oC', oI', oL', rfl, hkb, hIr, hIl, gC, gI, gL, hlater⟩
    exact (hlater ⟨h', s.gens, s.drawn, tk, s.os⟩ gC gI gL (hst.mono hkb)).elim
  · rintro s₁ ⟨_, h', tk, rfl, hkb⟩ h2 hk2
    have keep : ∀ b o, b < C → s.heap.get? b = some o → h2.get? b = some o := fun b o hb e => hk2 b o (hkb b o (Nat.lt_trans hb hCb) (Nat.ne_of_lt hb) e)
    refine h h2 tk _ ((GenOnly.setGen s g .running).trans (GenOnly.setGen (s.setGen g .running) g .finished)) (setGen_self (gs := .running) (setGen_self hgs)) ⟨F.ns.at' fun o e => keep _ o hLC e, fun b o e => keep b o ?_ (F.keep b o e), F.above⟩ fun p hp => ⟨keep _ _ (hnC p hp) (N p (.tail _ (.tail _ (.tail _ (.tail _ hp))))).1, (N p (.tail _ (.tail _ (.tail _ (.tail _ hp))))).2⟩
    exact Nat.lt_of_lt_of_le (Heap.lt_size e) hb0
end
end Mine.Internal
end PartG5
section PartSD
open PySem PySem.W PyProof.Rows PyProof.Rows.LCg
set_option maxHeartbeats 2000000
namespace Mine.Internal
theorem layNew_one (led : Bool) (h : Int) (x : Value) : ∃ t1 wd gv, layNew (.fresh 0 0 led) #[] h x = (#[(h, x)], t1, wd, gv) ∧ t1.fill = 1 ∧ (t1.mask = 7 ∨ t1.mask = 8) ∧ t1.fits 1 = true ∧ t1.led = led := by
  have hf := layNew_fits (.fresh 0 0 led) #[] h x
  have key : ∃ t1 wd gv, layNew (.fresh 0 0 led) #[] h x = (#[(h, x)], t1, wd, gv) ∧ t1.fill = 1 ∧ (t1.mask = 7 ∨ t1.mask = 8) ∧ t1.led = led := by
    unfold layNew
    cases hs : (SetTable.fresh 0 0 led).freeSlot h with
    | none => exact ⟨_, _, _, rfl, rfl, .inr rfl, rfl⟩
    | some p =>
      obtain ⟨slot, wd⟩ := p
      dsimp only
      have he : ∀ (q : Nat) (y : Int × Value), SetTable.insertAt (#[] : Array (Int × Value)) q y = #[y] := fun q y => by simp [SetTable.insertAt]
      rw [he]
      refine ⟨_, _, _, rfl, ?_, ?_, ?_⟩
      · unfold SetTable.orStandIn
        split
        · simp [SetTable.put, SetTable.fresh, SetTable.fill, SetTable.insertAt, SetTable.has]
        · rfl
      · unfold SetTable.orStandIn
        split
        · exact .inl rfl
        · exact .inr rfl
      · unfold SetTable.orStandIn
        split
        · rfl
        · rfl
  show (let zG : Prop := _; zG)
  intro zG
  obtain ⟨t1, wd, gv, e, h1, h2, h4⟩ := key
  (try k_unmd); k_unfold
  refine ⟨t1, wd, gv, e, h1, h2, ?_, h4⟩
  rw [e] at hf
  exact hf
theorem entry_upd_loop : entryFor table "set.update.loop" = some Builtin.«set.update.loop» := entryFor_of_fast (by kernel_rfl)
theorem plain_upd_loop : plainId "set.update.loop" = true := by decide +kernel
section
variable {prog : Program} {w : World} {A : Around} {E : Value → Shared → Prop} {s : Shared} {h₀ : Heap} {L : Nat} {m : Str → Option Value} {env : Env} {news : List (Addr × Obj)}
theorem setAdd_fresh {D : Addr} {led : Bool} {k : Str} {tk : Tok} {Q : Bool → Shared → Prop} (hD : s.heap.get? D = some { cls := .type "set", dict := none, data := .set #[] 0 (.fresh 0 0 led) })
    (h : ∀ h' t1 ep, h'.get? D = some { cls := .type "set", dict := none, data := .set #[(hashStr w k, .str k tk)] ep t1 } → t1.fill = 1 → (t1.mask = 7 ∨ t1.mask = 8) → t1.fits 1 = true → t1.led = led → Heap.SameBut D s.heap h' → Q true { s with heap := h', toks := s.toks + 1 }) :
    wpAny (model prog w) A (setAdd D (.str k tk)) Q E s := by
  have hso := setObjOf_fresh (knd := PySem.strKind prog w) led
  show (let zG : Prop := _; zG)
  intro zG
  obtain ⟨hex, es, ep, t, hd, hel, hmem, hn, hf⟩ := hso
  (try k_unmd); k_unfold
  cases hd
  have hkey := strKind_is prog w k tk
  have hsc : (Value.str k tk).scannable = true := rfl
  unfold setAdd
  refine wpAny_holding (wpAny_bind ((PySem.strKind prog w).pyHash hkey ?_))
  unfold setAddHashed setAddHashedIn
  refine wpAny_holding (wpAny_bind (wpAny_setState_of (s := { s with toks := s.toks + 1 }) hD rfl hf ?_))
  dsimp only
  have hb : (#[] : Array (Int × Value)).size < scanBound := by decide
  rw [byScan_of hsc hb hel]
  rw [if_pos rfl]
  unfold setAddByScan
  refine wpAny_bind ?_
  refine wpAny_bind (wpAny_rule ?_)
  refine wpAny_bind (wpAny_setScan_of hkey hD rfl hf hel ?_)
  dsimp only [List.findIdx?_nil]
  have hgw : ∀ (b : Bool) {s₁ : Shared} {Q' : Unit → Shared → Prop}, Q' () s₁ → wpAny (model prog w) A (match b with | true => rule "set.scan.the-table-gave-way" | false => pure ()) Q' E s₁ :=
      fun b s₁ Q' hq => by cases b <;> first | exact wpAny_pure hq | exact wpAny_rule hq
  show (let zG : Prop := _; zG)
  intro zG
  obtain ⟨t1, wd, gv, e, h1, h2, h3, h4⟩ := layNew_one led ((PySem.strKind prog w).hash k) (.str k tk)
  (try k_unmd); k_unfold
  rw [e]
  dsimp only
  have hq : ∀ t2 : SetTable, t2.fill = 1 → (t2.mask = 7 ∨ t2.mask = 8) → t2.fits 1 = true → t2.led = led → Q true { s with heap := s.heap.update D (Obj.putSet #[((PySem.strKind prog w).hash k, Value.str k tk)] t2), toks := s.toks + 1 } := fun t2 a1 a2 a3 a4 => by
    obtain ⟨c, hc⟩ : ∃ c, (s.heap.update D (Obj.putSet #[((PySem.strKind prog w).hash k, Value.str k tk)] t2)).get? D = some { cls := .type "set", dict := none, data := .set #[(hashStr w k, .str k tk)] c t2 } := ⟨_, Heap.get?_update_self _ hD rfl⟩
    exact h _ t2 c hc a1 a2 a3 a4 (Heap.SameBut.update ..)
  have nf : ∀ t2 : SetTable, t2.fill = 1 → (t2.mask = 7 ∨ t2.mask = 8) → t2.tooFull = false := fun t2 a1 a2 => by
    unfold SetTable.tooFull
    rw [a1]
    rcases a2 with e | e <;> (rw [e]; rfl)
  refine wpAny_bind (hgw _ ?_)
  split
  · refine wpAny_bind ?_
    rw [hashByValue_scannable 8 hsc]
    refine wpAny_pure ?_
    have ht2 : ∀ b : Bool, (if b = true then t1 else { t1 with plain := false }).fill = 1 ∧ ((if b = true then t1 else { t1 with plain := false }).mask = 7 ∨ (if b = true then t1 else { t1 with plain := false }).mask = 8) ∧ (if b = true then t1 else { t1 with plain := false }).fits 1 = true ∧ (if b = true then t1 else { t1 with plain := false }).led = led := by
      intro b
      cases b with
      | true => exact ⟨h1, h2, h3, h4⟩
      | false => exact ⟨h1, h2, SetTable.fits_plain_off h3, h4⟩
    have ht3 := ht2 (plainKind (Value.str k tk))
    generalize (if plainKind (Value.str k tk) = true then t1 else { t1 with plain := false }) = t2 at ht3 ⊢
    show (let zG : Prop := _; zG)
    intro zG
    obtain ⟨a1, a2, a3, a4⟩ := ht3
    (try k_unmd); k_unfold
    refine wpAny_bind (wpAny_storeSet_of (s := { s with toks := s.toks + 1 }) hD rfl ?_ (by rw [sizeLine_eq]; show (1 : Nat) ≤ _; decide))
    rw [nf t2 a1 a2, Bool.and_false, if_neg Bool.false_ne_true]
    exact wpAny_pure (wpAny_pure (hq t2 a1 a2 a3 a4))
  · refine wpAny_bind (wpAny_pure ?_)
    rw [if_pos rfl]
    refine wpAny_bind (wpAny_storeSet_of (s := { s with toks := s.toks + 1 }) hD rfl ?_ (by rw [sizeLine_eq]; show (1 : Nat) ≤ _; decide))
    rw [nf t1 h1 h2, Bool.and_false, if_neg Bool.false_ne_true]
    exact wpAny_pure (wpAny_pure (hq t1 h1 h2 h3 h4))
theorem newSet_led {Q : Value → Shared → Prop} (h : Q (.ref s.heap.objs.size) { s with heap := s.heap.push { cls := .type "set", dict := none, data := .set #[] 0 (.fresh 0 0 (!w.params.followText "set-order")) } }) : wpAny (model prog w) A (newSet (.type "set")) Q E s := by
  unfold newSet setsByText
  refine wpAny_bind (wpAny_bind (wpAny_askSetting (wpAny_pure ?_)))
  dsimp only
  refine wpAny_newObj_type ?_
  exact h
theorem set_star {K : Frag} {e1 e2 : Expr} {pst pos : Pos} {env : Env} {Q : Value → Shared → Prop} (F : Fr h₀ L s.heap m) (N : News h₀ L s.heap news) (X : K.In h₀) (hc : kdsCode K env.code = true) (hs : starEach [e1, .Starred e2 pst] env = [(false, eval e1 env), (true, eval e2 env)])
    (h : ∀ D h' (led : Bool), led = !w.params.followText "set-order" → Fr h₀ L h' m → News h₀ L h' ((D, { cls := .type "set", dict := none, data := .set #[] 0 (.fresh 0 0 led) }) :: news) → (∀ p ∈ news, p.1 < D) →
      wpAny (model prog w) A (eval e1 env) (fun v1 s1 => wpAny (model prog w) A (setAdd D v1) (fun _ s2 => wpAny (model prog w) A (eval e2 env) (fun v2 s3 => wpAny (model prog w) A (setDisplayStar D v2) (fun _ s4 => Q (.ref D) s4) E s3) E s2) E s1) E { s with heap := h' }) :
    wpAny (model prog w) A (eval (.Set [e1, .Starred e2 pst] 0 pos) env) Q E s := by
  rw [arm_eval_Set]
  refine wpAny_bind (wpAny_standAt ?_)
  refine wpAny_bind (kds_main (X.keeps F.keep) hc fun b => ?_)
  rw [hs]
  unfold setDisplay
  dsimp only
  have hr : displayRoad 0 [e1, e2.Starred pst] = DisplayRoad.oneByOne := rfl
  rw [hr, if_neg (by decide)]
  refine wpAny_bind (newSet_led ?_)
  dsimp only
  have hh := h _ _ _ rfl (F.push _) (News.push F N _ rfl) (fun p hp => Heap.lt_size (N p hp).1)
  refine wpAny_bind (wpAny_holding ?_)
  show wpAny _ _ (evalAll [(do let v ← eval e1 env; standAt pos; pure v)] >>= _) _ _ _
  refine wpAny_bind ?_
  show wpAny _ _ ((do let v ← eval e1 env; standAt pos; pure v) >>= fun v => holding [v] (pure []) >>= fun r => pure (v :: r)) _ _ _
  refine wpAny_bind (wpAny_bind (wpAny_mono hh (fun v1 s1 h1 => ?_) fun _ _ x => x))
  refine wpAny_bind (wpAny_standAt (wpAny_pure ?_))
  refine wpAny_bind (wpAny_holding (wpAny_pure (wpAny_pure ?_)))
  refine wpAny_bind (wpAny_holding ?_)
  rw [List.forIn_cons]
  refine wpAny_bind (wpAny_bind (wpAny_bind (wpAny_mono h1 (fun b2 s2 h2 => ?_) fun _ _ x => x)))
  refine wpAny_pure ?_
  dsimp only
  rw [List.forIn_nil]
  refine wpAny_pure ?_
  refine if_no (by decide) ?_
  refine wpAny_pure ?_
  show wpAny _ _ (forIn [((true : Bool), (do let v ← eval e2 env; standAt pos; pure v))] PUnit.unit _ >>= _) _ _ _
  rw [List.forIn_cons]
  refine wpAny_bind (wpAny_bind (wpAny_bind (wpAny_bind (wpAny_mono h2 (fun v2 s3 h3 => ?_) fun _ _ x => x))))
  refine wpAny_bind (wpAny_standAt (wpAny_pure ?_))
  dsimp only
  refine if_yes rfl ?_
  refine wpAny_bind (wpAny_holding (wpAny_mono h3 (fun _ s4 h4 => ?_) fun _ _ x => x))
  refine wpAny_pure ?_
  dsimp only
  rw [List.forIn_nil]
  exact wpAny_pure (wpAny_pure (wpAny_pure h4))
theorem star_empty {D at' : Nat} {ao : Obj} {k : Str} {tk : Tok} {ep : Nat} {t1 : SetTable} {Q : Unit → Shared → Prop} (hh : A.handled = none) (F : Fr h₀ L s.heap m) (N : News h₀ L s.heap ((D, { cls := .type "set", dict := none, data := .set #[(hashStr w k, .str k tk)] ep t1 }) :: news)) (hat : (at', ao) ∈ news) (hao : Obj.IsDictOf (PySem.strKind prog w) ao []) (hlo : (at' == sysModules) = false)
    (h1 : t1.fill = 1) (h2 : t1.mask = 7 ∨ t1.mask = 8) (h3 : t1.fits 1 = true)
    (h : ∀ h' tk', Fr h₀ L h' m → News h₀ L h' ((D, { cls := .type "set", dict := none, data := .set #[(hashStr w k, .str k tk)] ep t1 }) :: news) → Q () { s with heap := h', toks := tk' }) :
    wpAny (model prog w) A (setDisplayStar D (.ref at')) Q E s := by
  have hD := (N _ (.head _)).1
  have hA := (N _ (.tail _ hat)).1
  have hdo : s.heap.DictOf (PySem.strKind prog w) at' [] := Heap.dictOf_iff.mpr ⟨ao, hA, hao⟩
  have hT := hdo.typeIs
  unfold setDisplayStar
  dsimp only
  refine wpAny_bind (wpAny_isInstance (b := false) hT (by rw [isSubtype_type]; kernel_rfl) ?_)
  refine if_no Bool.false_ne_true ?_
  refine wpAny_bind (wpAny_isInstance (b := false) hT (by rw [isSubtype_type]; kernel_rfl) ?_)
  refine wpAny_bind (wpAny_askSetting ?_)
  show (let zG : Prop := _; zG)
  intro zG
  obtain ⟨o, es, ep', ho, hex, hd, hko, hpr, hnd⟩ := id hdo
  have hAt : s.heap.DictAt (PySem.strKind prog w) at' [] ep' := ⟨o, es, ho, hex, hd, hko, hpr, hnd⟩
  have hes : es = #[] := by
    cases hpr' : es.toList with
    | nil => exact Array.toList_eq_nil_iff.mp hpr'
    | cons a r => rw [hpr'] at hpr; cases hpr
  have hDlt : D < s.heap.objs.size := Heap.lt_size hD
  have slow : wpAny (model prog w) A (do let it ← pyIter (Value.ref at'); let _ ← runValue (Code.builtin "set.update.loop" { pos := [Value.ref D, it] }); pure ()) Q E s := by
    refine wpAny_bind (wpAny_pyIter_dict hlo hAt ?_)
    refine wpAny_bind (wpAny_runValue (codeAny_builtin entry_upd_loop ?_))
    rw [Around.under_plainId plain_upd_loop _]
    unfold Builtin.«set.update.loop»
    dsimp only
    refine wpAny_bind (wpAny_pyNext_dict_end (knd := PySem.strKind prog w) (kvs := []) (i := 0) hh ⟨_, Heap.get?_push_size _ rfl, rfl, rfl⟩ (hAt.push _) rfl fun h' hb => ?_)
    dsimp only
    refine wpAny_pure (wpAny_pure ?_)
    have keep : ∀ b o, s.heap.get? b = some o → h'.get? b = some o := fun b o e => hb b o (Nat.ne_of_lt (Heap.lt_size e)) (Heap.get?_push_of_some _ e)
    exact h h' _ (F.keeps keep) fun p hp => ⟨keep _ _ (N p hp).1, (N p hp).2⟩
  (try k_unmd); k_unfold
  split
  · rename_i a hma
    have ha : a = at' := by
      split at hma
      · cases hma
      · exact (Value.ref.inj hma).symm
    subst ha
    refine if_no Bool.false_ne_true ?_
    refine wpAny_bind (wpAny_typeOf hT ?_)
    refine if_yes (by decide) ?_
    refine wpAny_bind (wpAny_rule ?_)
    rw [hlo, if_neg Bool.false_ne_true]
    refine wpAny_bind (wpAny_dictEpoch ho hd ?_)
    refine wpAny_bind (wpAny_dictEntries ho hd ?_)
    subst hes
    unfold setRoomFor
    refine wpAny_bind (wpAny_bind (wpAny_setState_of hD rfl h3 ?_))
    have hr : t1.roomFor 0 = none := by
      unfold SetTable.roomFor
      rw [h1]
      rcases h2 with e | e <;> (rw [e]; rfl)
    dsimp only
    rw [show (#[] : Array DictEntry).size = 0 from rfl, hr]
    refine wpAny_pure ?_
    refine wpAny_bind (wpAny_of_eq (a := PUnit.unit) (by simp [Std.Legacy.Range.forIn_eq_forIn_range', Std.Legacy.Range.size]) ?_)
    exact wpAny_pure (h s.heap s.toks F N)
  · exact slow
end
end Mine.Internal
end PartSD
section PartSCF
open PySem PySem.W PyProof.Rows PyProof.Rows.LCg
set_option maxHeartbeats 2000000
namespace Mine.Internal
theorem owner_si : Manifest.owners.lookup (String.ofList ['r', 'o', 't', 'a', 'r', 'e', 't', 'i', '_', 't', 'e', 's'].reverse) = some Manifest.sig_set_iterator := by kernel_rfl
theorem slot_si_next : Slot "set_iterator" "__next__" "set_iterator.__next__" :=
  .of (owner := "set_iterator") (n := "__next__") (by rw [typeLookup_type, builtinLookup_eq_fast]; kernel_rfl) (by decide +kernel) (by decide +kernel) (by decide +kernel)
    (by first | exact .inl (by decide +kernel) | exact .inr (by decide +kernel)) (by rw [isSubtype_type]; kernel_rfl)
theorem entry_si_next : entryFor table "set_iterator.__next__" = some Builtin.«set_iterator.__next__» := entryFor_of_tree (by kernel_rfl)
theorem args_si_next (a : Value) : argsOk "set_iterator.__next__" ⟨[a], []⟩ := by
  unfold argsOk; rw [signature?_of (id := "set_iterator.__next__") (n := ['_', '_', 't', 'x', 'e', 'n', '_', '_']) (o := ['r', 'o', 't', 'a', 'r', 'e', 't', 'i', '_', 't', 'e', 's']) (by kernel_rfl) owner_si]; kernel_rfl
theorem entry_set_iter : entryFor table "set.__iter__" = some Builtin.«frozenset.__iter__» :=
  entryFor_alias (id' := "frozenset.__iter__") (by kernel_rfl) (by first | rfl | decide +kernel) (by decide +kernel) (by kernel_rfl)
theorem set_has_len : typeLookup (.type "set") "__len__" = pure (some (.builtin "set.__len__")) := by rw [typeLookup_type, builtinLookup_eq_fast]; kernel_rfl
end Mine.Internal
end PartSCF
section PartSC
open PySem PySem.W PyProof.Rows PyProof.Rows.LCg
set_option maxHeartbeats 2000000
namespace Mine.Internal
section
variable {prog : Program} {w : World} {A : Around} {E : Value → Shared → Prop} {s : Shared}
theorem setState1 {D : Nat} {hx : Int} {x : Value} {ep : Nat} {t1 : SetTable} {Q : (Array (Int × Value) × Nat × SetTable) → Shared → Prop} (hD : s.heap.get? D = some { cls := .type "set", dict := none, data := .set #[(hx, x)] ep t1 }) (h3 : t1.fits 1 = true) (h : Q (#[(hx, x)], ep, t1) s) : wpAny (model prog w) A (setState D) Q E s := wpAny_setState_of hD rfl h3 h
theorem set1_iter {D : Nat} {hx : Int} {x : Value} {ep : Nat} {t1 : SetTable} {Q : Value → Shared → Prop} (hD : s.heap.get? D = some { cls := .type "set", dict := none, data := .set #[(hx, x)] ep t1 }) (h3 : t1.fits 1 = true)
    (h : Q (.ref s.heap.objs.size) { s with heap := s.heap.push { cls := .type "set_iterator", data := .fields #[rawInt 0, rawInt 0, .ref D, rawInt 1, rawInt ep] } }) :
    wpAny (model prog w) A (pyIter (.ref D)) Q E s := by
  have hT : s.TypeIs (.ref D) "set" := ⟨_, hD, rfl⟩
  refine wpAny_pyIter_slot hT PySem.F.slot_set_iter (wpAny_call_entry PySem.F.slot_set_iter hT entry_set_iter ?_ (PySem.F.args_set_iter_1 _))
  unfold Builtin.«frozenset.__iter__»
  refine wpAny_bind (wpAny_of_eq (a := D) (by rfl) ?_)
  refine wpAny_bind ?_
  unfold Builtin.Frozenset.sizeOf setEntries
  refine wpAny_bind (wpAny_bind (setState1 hD h3 (wpAny_pure (wpAny_pure ?_))))
  refine wpAny_bind ?_
  unfold setDrawn
  refine wpAny_bind (setState1 hD h3 ?_)
  unfold setsByText
  refine wpAny_bind (wpAny_bind (wpAny_askSetting (wpAny_pure (wpAny_pure ?_))))
  have hdr : ∀ b : Bool, (!b && (!t1.plain && decide ((#[(hx, x)] : Array (Int × Value)).size > 1))) = false := fun b => by cases b <;> cases t1.plain <;> rfl
  dsimp only
  split
  · rename_i hc
    exact absurd (hc.symm.trans (hdr _)) (by decide)
  refine wpAny_bind (wpAny_pure ?_)
  refine wpAny_bind ?_
  unfold setEpoch
  refine wpAny_bind (setState1 hD h3 (wpAny_pure ?_))
  simp only [newFields]
  refine wpAny_bind (wpAny_newObj_type ?_ (by size_fits))
  exact wpAny_pure ⟨_, rfl, "set_iterator", _, ⟨_, Heap.get?_push_size _ rfl, rfl⟩, slot_si_next.lookup, h⟩
theorem pick1 {α : Type} (next : Nat → Nat) (e : α) : pickOrder next #[e] = #[e] := by
  have h : next 0 % [e].length = 0 := Nat.mod_one _
  refine Eq.trans (b := (match [e][next 0 % [e].length]? with | some x => pickOrder.go next 0 1 ([e].eraseIdx (next 0 % [e].length)) (#[].push x) | none => #[])) rfl ?_
  rw [h]; rfl
noncomputable def SlotOk (w : World) (t1 : SetTable) (given slot : Nat) : Prop := (given = 0 ∧ slot = 0) ∨ (given = 1 ∧ (w.params.followText "set-order" = true ∨ ∃ j, t1.place = #[j] ∧ slot = j + 1))
theorem setNext1 {D : Nat} {hx : Int} {x : Value} {ep slot given : Nat} {t1 : SetTable} {Q : Option (Value × Nat) → Shared → Prop} (hD : s.heap.get? D = some { cls := .type "set", dict := none, data := .set #[(hx, x)] ep t1 }) (h3 : t1.fits 1 = true) (hled : w.params.followText "set-order" = true ∨ t1.led = true)
    (hs : SlotOk w t1 given slot) (h0 : given = 0 → ∀ sl, SlotOk w t1 1 sl → Q (some (x, sl)) s) (h1 : given = 1 → Q none s) : wpAny (model prog w) A (setNext D slot given ep) Q E s := by
  obtain ⟨j, hj⟩ : ∃ j, t1.place = #[j] := by
    have hz : t1.place.size = 1 := by
      unfold SetTable.fits at h3
      simp only [Bool.and_eq_true, beq_iff_eq] at h3
      exact h3.1
    have hl : t1.place.toList.length = 1 := by rw [Array.length_toList]; exact hz
    obtain ⟨j, hj⟩ := List.length_eq_one_iff.mp hl
    exact ⟨j, Array.toList_inj.mp hj⟩
  unfold setNext
  refine wpAny_bind (setState1 hD h3 ?_)
  unfold setsByText
  refine wpAny_bind (wpAny_bind (wpAny_askSetting (wpAny_pure ?_)))
  dsimp only
  rw [show (model prog w).w = w from rfl]
  by_cases hb : w.params.followText "set-order" = true
  · rw [if_pos hb]
    refine if_no (by simp) ?_
    refine wpAny_bind ?_
    unfold setWalk
    refine wpAny_bind (setState1 hD h3 ?_)
    unfold setsByText
    refine wpAny_bind (wpAny_bind (wpAny_askSetting (wpAny_pure ?_)))
    dsimp only
    rw [show (model prog w).w = w from rfl, if_pos hb]
    refine wpAny_bind (wpAny_askSetting (wpAny_pure ?_))
    rw [pick1]
    rcases hs with ⟨rfl, rfl⟩ | ⟨rfl, -⟩
    · exact wpAny_pure (h0 rfl 0 (.inr ⟨rfl, .inl hb⟩))
    · exact wpAny_pure (h1 rfl)
  · rw [if_neg hb]
    have hl : t1.led = true := hled.resolve_left hb
    split
    · rename_i hc
      have : (!t1.plain && decide ((#[(hx, x)] : Array (Int × Value)).size > 1)) = true := hc
      simp at this
    refine wpAny_bind (wpAny_of_eq (a := ()) ?_ ?_)
    · show (if (!t1.led && _) = true then _ else _) = _
      rw [hl]; rfl
    · rw [hj]
      rcases hs with ⟨rfl, rfl⟩ | ⟨rfl, hs⟩
      · have e0 : SetTable.below #[j] 0 = 0 := (show (if j < 0 then 1 else 0) = 0 from if_neg (Nat.not_lt_zero j))
        rw [e0]
        exact wpAny_pure (h0 rfl (j + 1) (.inr ⟨rfl, .inr ⟨j, hj, rfl⟩⟩))
      · obtain ⟨j', hj', rfl⟩ := hs.resolve_left hb
        have : j' = j := by rw [hj] at hj'; simpa using hj'.symm
        subst this
        have e0 : SetTable.below #[j'] (j' + 1) = 1 := (fun k h => @Eq.trans Nat _ (if #[j'].getD ((0 + 1) / 2) k < k then SetTable.below.go #[j'] k 0 ((0 + 1) / 2 + 1) 1 else SetTable.below.go #[j'] k 0 0 ((0 + 1) / 2)) 1 (if_pos (e := (0 : Nat)) Nat.zero_lt_one) (if_pos h) : ∀ k, j' < k → SetTable.below #[j'] k = 1) _ (Nat.lt_succ_self j')
        rw [e0]
        exact wpAny_pure (h1 rfl)
theorem set1_item {D I : Nat} {hx : Int} {x : Value} {ep : Nat} {t1 : SetTable} {Q : Option Value → Shared → Prop} (hD : s.heap.get? D = some { cls := .type "set", dict := none, data := .set #[(hx, x)] ep t1 }) (h3 : t1.fits 1 = true) (hled : w.params.followText "set-order" = true ∨ t1.led = true)
    (hI : s.heap.get? I = some { cls := .type "set_iterator", data := .fields #[rawInt 0, rawInt 0, .ref D, rawInt 1, rawInt ep] })
    (h : ∀ h' sl, SlotOk w t1 1 sl → h'.get? I = some { cls := .type "set_iterator", data := .fields #[rawInt sl, rawInt 1, .ref D, rawInt 1, rawInt ep] } → Heap.SameBut I s.heap h' → Q (some x) { s with heap := h' }) :
    wpAny (model prog w) A (pyNext (.ref I)) Q E s := by
  have hT : s.TypeIs (.ref I) "set_iterator" := ⟨_, hI, rfl⟩
  unfold pyNext
  refine wpAny_bind (wpAny_attempt (wpAny_callSpecial?_slot (name := Str.ofString "__next__") hT slot_si_next (wpAny_call_entry slot_si_next hT entry_si_next ?_ (args_si_next _))))
  unfold Builtin.«set_iterator.__next__»
  refine wpAny_bind (wpAny_of_eq (a := (Value.ref I, [])) rfl ?_)
  dsimp only
  refine wpAny_bind (wpAny_fieldsOf hI rfl ?_)
  dsimp only
  refine wpAny_bind ?_
  unfold setEntries
  refine wpAny_bind (setState1 hD h3 (wpAny_pure ?_))
  refine if_no (by simp) ?_
  show wpAny _ _ (setNext D 0 0 ep >>= _) _ _ _
  refine wpAny_bind (setNext1 hD h3 hled (.inl ⟨rfl, rfl⟩) (fun _ sl hsl => ?_) fun h => absurd h (by decide))
  dsimp only
  refine wpAny_bind (wpAny_setField hI rfl (by simp) ?_)
  have hI2 := Heap.get?_update_self (Obj.mapFields fun vs => vs.setIfInBounds 0 (rawInt sl)) hI rfl
  refine wpAny_bind (wpAny_setField hI2 rfl (by simp) ?_)
  have hI3 := Heap.get?_update_self (Obj.mapFields fun vs => vs.setIfInBounds 1 (rawInt (0 + 1))) hI2 rfl
  exact wpAny_pure ⟨_, rfl, wpAny_pure (h _ sl hsl hI3 ((Heap.SameBut.update ..).trans (Heap.SameBut.update ..)))⟩
theorem set1_end {D I : Nat} {hx : Int} {x : Value} {ep sl : Nat} {t1 : SetTable} {Q : Option Value → Shared → Prop} (hh : A.handled = none) (hD : s.heap.get? D = some { cls := .type "set", dict := none, data := .set #[(hx, x)] ep t1 }) (h3 : t1.fits 1 = true) (hled : w.params.followText "set-order" = true ∨ t1.led = true)
    (hI : s.heap.get? I = some { cls := .type "set_iterator", data := .fields #[rawInt sl, rawInt 1, .ref D, rawInt 1, rawInt ep] }) (hsl : SlotOk w t1 1 sl)
    (h : ∀ h', Heap.ExtBut I s.heap h' → Q none { s with heap := h' }) :
    wpAny (model prog w) A (pyNext (.ref I)) Q E s := by
  have hT : s.TypeIs (.ref I) "set_iterator" := ⟨_, hI, rfl⟩
  unfold pyNext
  refine wpAny_bind (wpAny_attempt (wpAny_callSpecial?_slot (name := Str.ofString "__next__") hT slot_si_next (wpAny_call_entry slot_si_next hT entry_si_next ?_ (args_si_next _))))
  unfold Builtin.«set_iterator.__next__»
  refine wpAny_bind (wpAny_of_eq (a := (Value.ref I, [])) rfl ?_)
  dsimp only
  refine wpAny_bind (wpAny_fieldsOf hI rfl ?_)
  dsimp only
  refine wpAny_bind ?_
  unfold setEntries
  refine wpAny_bind (setState1 hD h3 (wpAny_pure ?_))
  refine if_no (by simp) ?_
  show wpAny _ _ (setNext D sl 1 ep >>= _) _ _ _
  refine wpAny_bind (setNext1 hD h3 hled hsl (fun h => absurd h (by decide)) fun _ => ?_)
  dsimp only
  refine wpAny_bind (wpAny_setField hI rfl (by simp) ?_)
  show wpAny _ _ (newExc (.type "StopIteration") [] >>= _) _ _ _
  refine wpAny_bind ?_
  simp only [newExc, newTuple]
  refine wpAny_bind (wpAny_newObj_type ?_ (by size_fits))
  refine wpAny_bind (m := firstArgMember _ _) (wpAny_of_eq (a := Value.none) (by first | rfl | (simp only [firstArgMember]; rfl)) ?_)
  refine wpAny_newObj_type ?_ (by size_fits)
  dsimp only
  refine wpAny_bind (wpAny_handled ?_)
  rw [show A.in1.handled = none from hh]
  refine wpAny_bind (wpAny_pure (wpAny_throw ?_))
  refine wpAny_bind (wpAny_isInstance (T := "StopIteration") (b := true) ⟨_, Heap.get?_push_size _ rfl, rfl⟩ isSubtype_stop ?_)
  exact wpAny_pure (h _ (((Heap.SameBut.update ..).extBut.push _).push _))
theorem set_hint {r : Nat} (hT : s.TypeIs (.ref r) "set") {Q : Bool → Shared → Prop} (h : Q false s) : wpAny (model prog w) A (Builtin.List.listLengthHint (.ref r)) Q E s := by
  unfold Builtin.List.listLengthHint
  refine wpAny_bind (wpAny_specialOf hT set_has_len ?_)
  generalize hid : ("set.__len__" : String) = id0
  wp_delta
  rw [show splitId id0 = some ("set", "__len__") from by subst hid; decide +kernel]
  subst hid
  refine wpAny_bind (wpAny_isInstance (T := "set") (b := true) hT (by rw [isSubtype_type]; kernel_rfl) ?_)
  refine wpAny_ite_split (fun hab => absurd hab (by decide)) (fun _ => ?_)
  refine wpAny_ite_split (fun _ => ?_) (fun hab => absurd (by decide +kernel) hab)
  refine wpAny_bind (wpAny_typeOf hT ?_)
  exact wpAny_pure h
theorem collect_set1 {D : Nat} {hx : Int} {x : Value} {ep : Nat} {t1 : SetTable} {Q : List Value → Shared → Prop} (hh : A.handled = none) (hD : s.heap.get? D = some { cls := .type "set", dict := none, data := .set #[(hx, x)] ep t1 }) (h3 : t1.fits 1 = true) (hled : w.params.followText "set-order" = true ∨ t1.led = true)
    (h : ∀ h' tk, (∀ b o, s.heap.get? b = some o → h'.get? b = some o) → Q [x] { s with heap := h', toks := tk }) :
    wpAny (model prog w) A (collect (.ref D)) Q E s := by
  have hDlt : D < s.heap.objs.size := Heap.lt_size hD
  unfold collect
  refine wpAny_bind (wpAny_runValue (codeAny_builtin F.entry_proto_collect ?_))
  rw [Around.under_plainId F.plain_proto_collect _]
  show wpAny _ A.in1 (newList [] >>= fun l => again (.builtin "list.__iadd__" ⟨[l, .ref D], []⟩)) _ _ s
  refine wpAny_bind (wpAny_newObj_type ?_)
  refine wpAny_pure ⟨plainId_quiet F.plain_list_iadd _, codeAny_builtin F.entry_list_iadd ?_⟩
  rw [Around.under_plainId F.plain_list_iadd _]
  show (let zG : Prop := _; zG)
  intro zG
  obtain ⟨S, eS⟩ : ∃ S : Nat, S = s.heap.objs.size := ⟨_, rfl⟩
  obtain ⟨H1, eH1⟩ : ∃ H, H = s.heap.push { cls := .type "list", data := .seq ([] : List Value).toArray } := ⟨_, rfl⟩
  have hS₁ : H1.get? S = some { cls := .type "list", data := .seq ([] : List Value).toArray } := by rw [eH1, eS]; exact Heap.get?_push_size _ rfl
  have up1 : ∀ b o, s.heap.get? b = some o → H1.get? b = some o := fun b o e => by rw [eH1]; exact Heap.get?_push_of_some _ e
  (try k_unmd); k_unfold
  show wpAny _ A.in1 (Builtin.List.listExtendWith (.ref s.heap.objs.size) (.ref D) (.ref s.heap.objs.size)) _ _ { s with heap := s.heap.push { cls := .type "list", data := .seq ([] : List Value).toArray } }
  rw [← eS, ← eH1]
  unfold Builtin.List.listExtendWith
  have hD1 := up1 _ _ hD
  have hT : ∀ (h : Heap) k, h.get? D = some { cls := .type "set", dict := none, data := .set #[(hx, x)] ep t1 } → (⟨h, s.gens, s.drawn, k, s.os⟩ : Shared).TypeIs (.ref D) "set" := fun h k e => ⟨_, e, rfl⟩
  refine wpAny_bind (wpAny_typeOf (hT _ _ hD1) ?_)
  have hne : S ≠ D := Nat.ne_of_gt (by rw [eS]; exact hDlt)
  have h1 : Builtin.List.listSameRef (.ref S) (.ref D) = false := by simp [Builtin.List.listSameRef, hne]
  have h2 : (Value.type "set" == Value.type "list") = false := by decide
  have h3' : (Value.type "set" == Value.type "tuple") = false := by decide
  simp only [h1, h2, h3', Bool.or_false, Bool.false_eq_true, if_false]
  refine wpAny_bind (set1_iter hD1 h3 ?_)
  dsimp only
  show (let zG : Prop := _; zG)
  intro zG
  obtain ⟨I, eI⟩ : ∃ I : Nat, I = H1.objs.size := ⟨_, rfl⟩
  obtain ⟨H2, eH2⟩ : ∃ H, H = H1.push { cls := .type "set_iterator", data := .fields #[rawInt 0, rawInt 0, .ref D, rawInt 1, rawInt ep] } := ⟨_, rfl⟩
  (try k_unmd); k_unfold
  rw [← eI, ← eH2]
  have eIS : I = S + 1 := by rw [eI, eH1, Heap.size_push, eS]
  have hI2 : H2.get? I = some { cls := .type "set_iterator", data := .fields #[rawInt 0, rawInt 0, .ref D, rawInt 1, rawInt ep] } := by rw [eH2, eI]; exact Heap.get?_push_size _ rfl
  have up2 : ∀ b o, H1.get? b = some o → H2.get? b = some o := fun b o e => by rw [eH2]; exact Heap.get?_push_of_some _ e
  refine wpAny_bind (wpAny_holding (set_hint (hT _ _ (up2 _ _ hD1)) ?_))
  have hSI : S < I := by (first | decide | lia | omega)
  have key : ∀ (R : Result → Shared → Prop), (∀ h5 tk c, h5.get? S = some { cls := .type "list", data := .seq #[x] c } → (∀ b o, s.heap.get? b = some o → h5.get? b = some o) → R (.ok (.ret (.ref S))) { s with heap := h5, toks := tk }) → ∀ (H : Heap) (c tk : Nat), H.get? I = some { cls := .type "set_iterator", data := .fields #[rawInt 0, rawInt 0, .ref D, rawInt 1, rawInt ep] } → H.get? D = some { cls := .type "set", dict := none, data := .set #[(hx, x)] ep t1 } → H.get? S = some { cls := .type "list", data := .seq #[] c } → (∀ b o, s.heap.get? b = some o → H.get? b = some o) →
      codeAny (model prog w) A (.builtin "list.extend.loop" ⟨[.ref S, .ref I, .ref S], []⟩) R { s with heap := H, toks := tk } := by
    intro R hR H c tk gI gD gS up
    refine codeAny_builtin F.entry_extend_loop ?_
    rw [Around.under_plainId F.plain_extend_loop _]
    show wpAny _ A.in1 (pyNext (.ref I) >>= _) _ _ _
    refine wpAny_bind (set1_item gD h3 hled gI fun h' sl hsl gI' hs' => ?_)
    have gS' := hs'.extBut S _ (Nat.ne_of_lt (by (first | decide | lia | omega))) gS
    have gD' := hs'.extBut D _ (Nat.ne_of_lt (by (first | decide | lia | omega))) gD
    show wpAny _ A.in1 (updateSeq S (·.push x) >>= _) _ _ _
    refine wpAny_bind (wpAny_updateSeq (hz := by seq_fits) gS' rfl ?_)
    have gS2 := Heap.get?_update_self (Obj.mapSeq (·.push x)) gS' rfl
    have oth : ∀ b o, b ≠ S → h'.get? b = some o → (h'.update S (Obj.mapSeq (·.push x))).get? b = some o := fun b o hb e => (Heap.get?_update_other _ _ (Ne.symm hb)).trans e
    refine wpAny_pure ⟨plainId_quiet F.plain_extend_loop _, codeAny_builtin F.entry_extend_loop ?_⟩
    rw [Around.under_plainId F.plain_extend_loop _]
    show wpAny _ A.in1 (pyNext (.ref I) >>= _) _ _ _
    refine wpAny_bind (set1_end (sl := sl) hh (oth D _ (Ne.symm hne) gD') h3 hled (oth I _ (Nat.ne_of_gt (by (first | decide | lia | omega))) gI') hsl fun h5 hb5 => ?_)
    refine wpAny_pure (hR h5 tk _ (hb5 S _ (Nat.ne_of_lt hSI) gS2) fun b o e => ?_)
    have hb : b < S := by rw [eS]; exact Heap.lt_size e
    exact hb5 b o (Nat.ne_of_lt (Nat.lt_trans hb hSI)) (oth b o (Nat.ne_of_lt hb) (hs'.extBut b o (Nat.ne_of_lt (Nat.lt_trans hb hSI)) (up b o e)))
  have fin : ∀ h5 tk c, h5.get? S = some { cls := .type "list", data := .seq #[x] c } → (∀ b o, s.heap.get? b = some o → h5.get? b = some o) → wpAny (model prog w) A (do match (← load S).data with | .seq xs _ => pure xs.toList | _ => unsupported "internal:collect") Q E { s with heap := h5, toks := tk } := fun h5 tk c e1 e2 => wpAny_bind (wpAny_load e1 (wpAny_pure (h h5 tk e2)))
  refine wpAny_ite_split (fun _ => ?_) (fun _ => wpAny_pure ⟨plainId_quiet PySem.F.plain_extend_loop _, key _ (fun h5 tk c e1 e2 => fin h5 tk c e1 e2) _ _ _ hI2 (up2 _ _ hD1) (up2 _ _ hS₁) fun b o e => up2 b o (up1 b o e)⟩)
  refine wpAny_bind (wpAny_rule ?_)
  refine wpAny_bind ?_
  show wpAny _ _ (updateSeq S (·.push .none) >>= fun _ => updateSeq S (·.pop)) _ _ _
  have gS := up2 _ _ hS₁
  refine wpAny_bind (wpAny_updateSeq gS rfl ?_)
  have hS₂ := Heap.get?_update_self (Obj.mapSeq (·.push Value.none)) gS rfl
  refine wpAny_updateSeq (hz := by seq_fits) hS₂ rfl ?_
  have hS₃ := Heap.get?_update_self (Obj.mapSeq (·.pop)) hS₂ rfl
  have oth : ∀ b o, b ≠ S → H2.get? b = some o → ((H2.update S (Obj.mapSeq (·.push Value.none))).update S (Obj.mapSeq (·.pop))).get? b = some o := fun b o hb e => (Heap.get?_update_other _ _ (Ne.symm hb)).trans ((Heap.get?_update_other _ _ (Ne.symm hb)).trans e)
  exact wpAny_pure ⟨plainId_quiet PySem.F.plain_extend_loop _, key _ (fun h5 tk c e1 e2 => fin h5 tk c e1 e2) _ _ _ (oth I _ (Nat.ne_of_gt (by (first | decide | lia | omega))) hI2) (oth D _ (Ne.symm hne) (up2 _ _ hD1)) hS₃ fun b o e => oth b o (Nat.ne_of_lt (by rw [eS]; exact Heap.lt_size e)) (up2 b o (up1 b o e))⟩
end
end Mine.Internal
end PartSC
section PartSS
open PySem PySem.W PyProof.Rows PyProof.Rows.LCg
set_option maxHeartbeats 2000000
namespace Mine.Internal
section
variable {prog : Program} {w : World} {A : Around} {E : Value → Shared → Prop} {s : Shared} {h₀ : Heap} {L : Nat} {m : Str → Option Value} {news : List (Addr × Obj)}
noncomputable abbrev lst0 (e : Nat) : Obj := W.listOf (List.toArray ([] : List Value)) e
noncomputable def KeyEnd (h₀ : Heap) (L : Nat) (m : Str → Option Value) (s : Shared) (kS a e1 : Nat) (QQ : List (Addr × Obj) → Prop) (s2 : Shared) : Prop := ∃ h2 tk2 nx, s2 = { s with heap := h2, toks := tk2 } ∧ Fr h₀ L h2 m ∧ News h₀ L h2 ((kS, lst0 0) :: (a, lst0 e1) :: nx) ∧ (∀ p ∈ nx, p.1 ≠ a ∧ p.1 ≠ kS) ∧ QQ nx
theorem keyEnd_of {h2 : Heap} {tk2 kS a e1 : Nat} {x y z : Addr × Obj} {l : List (Addr × Obj)} {QQ : List (Addr × Obj) → Prop} (F : Fr h₀ L h2 m) (N : News h₀ L h2 (x :: (kS, lst0 0) :: (a, lst0 e1) :: y :: z :: l)) (ha : ∀ p ∈ l, p.1 < a) (hk : a < kS) (hQ : QQ l) : KeyEnd h₀ L m s kS a e1 QQ { s with heap := h2, toks := tk2 } := by
  refine ⟨h2, tk2, l, rfl, F, fun p hp => N p ?_, fun p hp => ⟨Nat.ne_of_lt (ha p hp), Nat.ne_of_lt (Nat.lt_trans (ha p hp) hk)⟩, hQ⟩
  simp only [List.mem_cons] at hp ⊢
  rcases hp with h | h | h <;> simp [h]
theorem sort_key1 {a : Nat} {f : Nat} {x : Value} {n : Nat} {P : PySem.Fin → Shared → Prop} (F : Fr h₀ L s.heap m) (N : News h₀ L s.heap news) (ho : s.heap.get? a = some (seqObj "list" #[x] n)) (haL : a ≠ L) (ha0 : h₀.get? a = none) (hna : ∀ p ∈ news, p.1 < a)
    (turn : ∀ (kS : Nat) e1 h1 tk, Fr h₀ L h1 m → News h₀ L h1 ((kS, lst0 0) :: (a, lst0 e1) :: news) → a < kS →
      wpAny (model prog w) A (call (.ref f) [x]) (fun _ s2 => ∃ h2 tk2 nx, s2 = { s with heap := h2, toks := tk2 } ∧ Fr h₀ L h2 m ∧ News h₀ L h2 ((kS, lst0 0) :: (a, lst0 e1) :: nx) ∧ (∀ p ∈ nx, p.1 ≠ a ∧ p.1 ≠ kS) ∧
        (∀ h3 tk3 c, Fr h₀ L h3 m → News h₀ L h3 ((a, W.listOf [x].toArray c) :: nx) → P (.done (.ret .none)) { s with heap := h3, toks := tk3 })) (fun _ _ => False) { s with heap := h1, toks := tk }) :
    wpAny (model prog w) A (ksk_tree a (.ref f) false) P E s := by
  have ha : a < s.heap.objs.size := Heap.lt_size ho
  have s1 := Heap.SameBut.update s.heap a (Obj.mapSeq fun _ => (#[] : Array Value))
  obtain ⟨e1, ho1⟩ : ∃ e1, (s.heap.update a (Obj.mapSeq fun _ => (#[] : Array Value))).get? a = some (seqObj "list" #[] e1) := ⟨_, get?_update_seq ho fun _ => #[]⟩
  have F1 := ksk_fr F s1 haL ha0
  have N1 := ksk_news N s1 fun p hp => Nat.ne_of_lt (hna p hp)
  have haH : a < (s.heap.update a (Obj.mapSeq fun _ => (#[] : Array Value))).objs.size := by rw [Heap.size_update]; exact ha
  unfold ksk_tree
  refine wpAny_bind (listItems_at ho rfl ?_)
  refine wpAny_bind (listUpdate_at ho rfl ?_ (by rw [sizeLine_eq]; show (1 : Nat) ≤ _; (first | decide | lia | omega)) (Nat.zero_le _))
  generalize (s.heap.update a (Obj.mapSeq fun _ => (#[] : Array Value))) = H1 at *
  have hLk : L < (H1.push (seqObj "tuple" #[x] 0)).objs.size := (F1.push _).ns.lt
  refine wpAny_bind (seqEpoch_at ho1 rfl ?_)
  refine wpAny_bind (wpAny_newTuple ?_ (by show (1 : Nat) ≤ _; rw [sizeLine_eq]; (first | decide | lia | omega)))
  refine wpAny_bind (wpAny_newList ?_ (Nat.zero_le _))
  refine wpAny_holding ?_
  unfold ksk_rest
  refine wpAny_bind (wpAny_rule ?_)
  rw [← Array.forIn_toList]
  show wpAny _ _ (forIn [x] PUnit.unit _ >>= _) _ _ _
  rw [List.forIn_cons]
  have hak : a < (H1.push (seqObj "tuple" #[x] 0)).objs.size := by rw [size_push']; exact Nat.lt_succ_of_lt haH
  refine wpAny_bind (wpAny_bind (wpAny_bind (wpAny_attempt (wpAny_mono (turn _ e1 _ s.toks ((F1.push _).push _) (fun p hp => ?_) hak) (fun k s2 h2 => ?_) fun _ _ hF => hF.elim))))
  · rcases List.mem_cons.mp hp with rfl | hp
    · exact ⟨Heap.get?_push_size _ rfl, Nat.ne_of_gt hLk, Heap.get?_none_of_le (Nat.le_trans F.above (Nat.le_of_lt hLk))⟩
    rcases List.mem_cons.mp hp with rfl | hp
    · exact ⟨Heap.get?_push_of_some _ (Heap.get?_push_of_some _ ho1), haL, ha0⟩
    · exact ⟨Heap.get?_push_of_some _ (Heap.get?_push_of_some _ (N1 p hp).1), (N1 p hp).2⟩
  show (let zG : Prop := _; zG)
  intro zG
  obtain ⟨h2, tk2, nx, rfl, F2, N2, hnx, hP⟩ := h2
  (try k_unmd); k_unfold
  dsimp only
  generalize hkk : (H1.push (seqObj "tuple" #[x] 0)).objs.size = kS at hak N2 hnx ⊢
  clear hkk turn
  have nk := N2 _ (.head _)
  have na := N2 _ (.tail _ (.head _))
  have nk1 : h2.get? kS = some (seqObj "list" #[] 0) := nk.1
  have na1 : h2.get? a = some (seqObj "list" #[] e1) := na.1
  have hka : kS ≠ a := Nat.ne_of_gt hak
  refine wpAny_bind (listUpdate_at nk1 rfl ?_ (by rw [sizeLine_eq]; show (0 : Nat) ≤ _; (first | decide | lia | omega)) (by rw [sizeLine_eq]; show (1 : Nat) ≤ _; (first | decide | lia | omega)))
  have u1 := Heap.SameBut.update h2 kS (Obj.mapSeq (·.push k))
  obtain ⟨c2, hc2⟩ : ∃ c2, (h2.update kS (Obj.mapSeq (·.push k))).get? kS = some (seqObj "list" #[k] c2) := ⟨_, get?_update_seq nk1 (·.push k)⟩
  have ga2 : (h2.update kS (Obj.mapSeq (·.push k))).get? a = some (seqObj "list" #[] e1) := u1.extBut a _ (Ne.symm hka) na1
  generalize (h2.update kS (Obj.mapSeq (·.push k))) = H2 at *
  refine wpAny_pure ?_
  dsimp only
  rw [List.forIn_nil]
  refine wpAny_pure ?_
  refine wpAny_bind (listItems_at hc2 rfl ?_)
  unfold ksk_end
  dsimp only
  refine if_no Bool.false_ne_true ?_
  have hsz : (#[x] : Array Value).size < 2 := by show (1 : Nat) < 2; (first | decide | lia | omega)
  rw [if_pos hsz, if_pos hsz]
  refine wpAny_bind (wpAny_pure ?_)
  rw [StateT.run_pure]
  refine wpAny_bind (wpAny_pure ?_)
  dsimp only
  rw [if_neg Bool.false_ne_true]
  unfold ksk_tail
  dsimp only
  have hso : ((arrOf (SortSt.mk' general' ((#[k] : Array Value).zip #[x]) #[] 7 none)).map (·.2)) = #[x] := by
    show (((#[k] : Array Value).zip #[x]).map (·.2)) = #[x]
    simp
  rw [if_neg Bool.false_ne_true, hso]
  refine wpAny_bind (listUpdate_at hc2 rfl ?_ (by rw [sizeLine_eq]; show (1 : Nat) ≤ _; (first | decide | lia | omega)) (Nat.zero_le _))
  have u2 := Heap.SameBut.update H2 kS (Obj.mapSeq fun _ => (#[] : Array Value))
  have ga3 : (H2.update kS (Obj.mapSeq fun _ => (#[] : Array Value))).get? a = some (seqObj "list" #[] e1) := u2.extBut a _ (Ne.symm hka) ga2
  generalize (H2.update kS (Obj.mapSeq fun _ => (#[] : Array Value))) = H3 at *
  refine wpAny_bind (wpAny_letGo ?_)
  refine wpAny_bind (seqEpoch_at ga3 rfl ?_)
  refine wpAny_bind (listUpdate_at ga3 rfl ?_ (Nat.zero_le _) (by rw [sizeLine_eq]; show (1 : Nat) ≤ _; (first | decide | lia | omega)))
  have u3 := Heap.SameBut.update H3 a (Obj.mapSeq fun _ => (#[x] : Array Value))
  obtain ⟨c4, hc4⟩ : ∃ c4, (H3.update a (Obj.mapSeq fun _ => (#[x] : Array Value))).get? a = some (seqObj "list" #[x] c4) := ⟨_, get?_update_seq ga3 fun _ => (#[x] : Array Value)⟩
  generalize (H3.update a (Obj.mapSeq fun _ => (#[x] : Array Value))) = H4 at *
  simp only [bne_self_eq_false, Bool.false_eq_true, if_false]
  refine wpAny_pure (hP _ tk2 c4 (ksk_fr (ksk_fr (ksk_fr F2 u1 nk.2.1 nk.2.2) u2 nk.2.1 nk.2.2) u3 na.2.1 na.2.2) fun p hp => ?_)
  rcases List.mem_cons.mp hp with rfl | hp
  · exact ⟨hc4, na.2⟩
  · have hn := hnx p hp
    have z := N2 p (.tail _ (.tail _ hp))
    exact ⟨u3.extBut _ _ hn.1 (u2.extBut _ _ hn.2 (u1.extBut _ _ hn.2 z.1)), z.2⟩
theorem sorted_key1 {D f : Nat} {hx : Int} {x : Value} {ep : Nat} {t1 : SetTable} {Q : Value → Shared → Prop} (hh : A.handled = none) (F : Fr h₀ L s.heap m) (N : News h₀ L s.heap news) (hD : s.heap.get? D = some { cls := .type "set", dict := none, data := .set #[(hx, x)] ep t1 }) (h3 : t1.fits 1 = true) (hled : w.params.followText "set-order" = true ∨ t1.led = true)
    (turn : ∀ (a kS : Nat) e1 h1 tk, Fr h₀ L h1 m → News h₀ L h1 ((kS, lst0 0) :: (a, lst0 e1) :: news) → (∀ p ∈ news, p.1 < a) → a < kS →
      wpAny (model prog w) A.in1.in1 (call (.ref f) [x]) (fun _ s2 => KeyEnd h₀ L m s kS a e1 (fun nx => ∀ h3 tk3 c, Fr h₀ L h3 m → News h₀ L h3 ((a, W.listOf [x].toArray c) :: nx) → Q (.ref a) { s with heap := h3, toks := tk3 }) s2) (fun _ _ => False) { s with heap := h1, toks := tk }) :
    wpAny (model prog w) A (call (.builtin "sorted") [.ref D] [(Str.ofString "key", .ref f)]) Q E s := by
  refine call_function_entry_kw kind_sorted plain_sorted entry_sorted (ksk_s1 _ _) ?_
  unfold Builtin.«sorted»
  refine wpAny_bind (m := checkCount "sorted" 1 1 _) (wpAny_pure ?_)
  refine wpAny_bind (collect_set1 (A := A.in1) hh hD h3 hled fun h' tk keep => ?_)
  refine wpAny_bind (wpAny_newList ?_ (by rw [sizeLine_eq]; show (1 : Nat) ≤ _; (first | decide | lia | omega)))
  have hLs : L < h'.objs.size := (F.keeps keep).ns.lt
  have hoL : (h'.push (seqObj "list" #[x] 0)).get? h'.objs.size = some (seqObj "list" #[x] 0) := Heap.get?_push_size _ rfl
  refine wpAny_bind (wpAny_holding (wpAny_call_entry_kw slot_list_sort ⟨_, hoL, rfl⟩ entry_list_sort ?body (ksk_l1 _ _)))
  case body =>
    show wpAny (model prog w) A.in1.in1 (Builtin.«list.sort» ⟨[.ref h'.objs.size], [(Str.ofString "key", .ref f)]⟩) _ _ _
    rw [ksk_t1]
    have hlt : ∀ p ∈ news, p.1 < h'.objs.size := fun p hp => Heap.lt_size (keep _ _ (N p hp).1)
    refine sort_key1 (a := h'.objs.size) ((F.keeps keep).push _) ((N.grown keep).grown fun b o e => Heap.get?_push_of_some _ e) hoL (Nat.ne_of_gt hLs) (Heap.get?_none_of_le (Nat.le_trans F.above (Nat.le_of_lt hLs))) hlt fun kS e1 h1 tk1 F1 N1 hk => ?_
    refine wpAny_mono (turn h'.objs.size kS e1 h1 tk1 F1 N1 hlt hk) (fun k s2 h2 => ?_) fun _ _ hF => hF
    show (let zG : Prop := _; zG)
    intro zG
    obtain ⟨h2, tk2, nx, rfl, F2, N2, hnx, hP⟩ := h2
    (try k_unmd); k_unfold
    exact ⟨h2, tk2, nx, rfl, F2, N2, hnx, fun h3 tk3 c F3 N3 => ⟨_, rfl, wpAny_pure ⟨_, rfl, hP h3 tk3 c F3 N3⟩⟩⟩
end
end Mine.Internal
end PartSS
section PartLM
open PySem PySem.W PyProof.Rows PyProof.Rows.LCg
set_option maxHeartbeats 2000000
namespace Mine.Internal
noncomputable def TabOk (pos : Pos) (qual : Str) (ps : Array Value) (news : List (Addr × Obj)) : Prop := ps = #[] ∨ ∃ (c' : Addr) (oc : Obj) (vs : Array Value) (t : Tok), ps = #[rawInt pos.line, rawInt pos.col, .ref c'] ∧ (c', oc) ∈ news ∧ oc.data = .fields vs ∧ vs[1]? = some (.str qual t)
theorem TabOk.mono {pos : Pos} {qual : Str} {ps : Array Value} {news news' : List (Addr × Obj)} (h : TabOk pos qual ps news) (hs : ∀ p ∈ news, p ∈ news') : TabOk pos qual ps news' := by
  rcases h with h | ⟨c', oc, vs, t, h1, h2, h3, h4⟩
  · exact .inl h
  · exact .inr ⟨c', oc, vs, t, h1, hs _ h2, h3, h4⟩
section
variable {M : Model} {A : Around} {E : Value → Shared → Prop} {s : Shared} {h₀ : Heap} {L a c P : Addr} {m mg mb : Str → Option Value} {cn : Str} {cs : Scope} {ccd : Value} {cl : List (Str × Addr)} {news : List (Addr × Obj)}
  {p : Program} {loose : List Str} {mean : ExcName → Option Value} {name qual : Str} {params : Arguments} {body : Expr} {scope : Scope} {ps : Array Value} {pos : Pos} {firstLine : Nat} {clos : List (Str × Addr)}
theorem lam_make {g : Obj → List (Addr × Obj)} {low : List (Addr × Obj)} {Q : Value → Shared → Prop} (F : Fr h₀ L s.heap m) (N : News h₀ L s.heap news) (U : UpdF P (tabObj ps) news g) (T : Top p loose mean mg mb h₀) (C : CodeHd h₀ c P) (hcd : ccd = .ref c) (hps : TabOk pos qual ps low) (hlow : ∀ p ∈ low, p ∈ news)
    (hcl : closureFor scope (envX cn cs L a ccd cl) = pure clos)
    (h : ∀ f c' oc vs t ctv h' tk, Fr h₀ L h' m →
      News h₀ L h' ((f, kla_obj name qual params body scope clos ((mg "__name__").getD .none) c' ctv) :: (c', oc) :: g (tabObj #[rawInt pos.line, rawInt pos.col, .ref c'])) →
      oc.data = .fields vs → vs[1]? = some (.str qual t) → (∀ q ∈ news, q.1 < f) → c' < f → (((c', oc) ∈ low) ∨ ∀ q ∈ news, q.1 < c') → Q (.ref f) { s with heap := h', toks := tk }) :
    wpAny M A (makeFunction name qual params (.expr body) scope (envX cn cs L a ccd cl) [] [] [] pos firstLine) Q E s := by
  rcases hps with rfl | ⟨c', oc, vs, t, rfl, h2, h3, h4⟩
  · refine kla_nest F N T C hcd U trivial rfl hcl fun f c' oc vs t ctv h' tk F' N' d1 d2 l1 l2 => ?_
    exact h f c' oc vs t ctv h' tk F' N' d1 d2 (fun q hq => Nat.lt_trans (l1 q hq) l2) l2 (.inr l1)
  · obtain ⟨pre, post, e, hg, -, -⟩ := id U.split
    have hm : (P, tabObj #[rawInt pos.line, rawInt pos.col, .ref c']) ∈ news := by rw [e]; exact List.mem_append_right _ (.head _)
    have eg : g (tabObj #[rawInt pos.line, rawInt pos.col, .ref c']) = news := by rw [hg, e]
    refine kla_hit (c' := c') F N T C hcd hm trivial ?_ hcl fun f ctv h' tk F' N' l1 => ?_
    · simp [codeAmong, rawInt]
    · refine h f c' oc vs t ctv h' tk F' (fun q hq => N' q ?_) h3 h4 l1 (l1 _ (hlow _ h2)) (.inl h2)
      rw [eg] at hq
      simp only [List.mem_cons] at hq ⊢
      rcases hq with h | h | h
      · exact .inl h
      · exact .inr (by rw [h]; exact hlow _ h2)
      · exact .inr h
theorem news_add4 {x y z w : Addr × Obj} {l : List (Addr × Obj)} {h : Heap} (N : News h₀ L h (x :: y :: z :: l)) (hw : w ∈ l) : News h₀ L h (x :: y :: z :: w :: l) := fun p hp => by
  simp only [List.mem_cons] at hp
  rcases hp with h | h | h | h | h
  · exact N p (by simp [h])
  · exact N p (by simp [h])
  · exact N p (by simp [h])
  · exact N p (by rw [h]; exact .tail _ (.tail _ (.tail _ hw)))
  · exact N p (.tail _ (.tail _ (.tail _ h)))
end
end Mine.Internal
end PartLM
section PartDC
open PySem PySem.W PyProof.Rows PyProof.Rows.LCg
set_option maxHeartbeats 2000000
namespace Mine.Internal
section
variable {prog : Program} {w : World} {A : Around} {E : Value → Shared → Prop} {s : Shared} {h₀ : Heap} {L : Nat} {m : Str → Option Value} {env : Env}
noncomputable def StopCalls : Prop := True
noncomputable abbrev dict0 : Obj := { cls := .type "dict", data := .dict #[] }
noncomputable def Dict1At (prog : Program) (w : World) (A : Around) (h₀ : Heap) (L : Nat) (m : Str → Option Value) (env : Env) (x y : Str) (kx vx : Expr) (scope : Scope) (cl : List (Str × Addr)) (FQ : Shared → Prop) (xv : Value) (s₁ : Shared) : Prop :=
  ∃ (ax : Nat) (x0 : Value) (e : Nat) (news : List (Addr × Obj)), xv = .ref ax ∧ Fr h₀ L s₁.heap m ∧ News h₀ L s₁.heap ((ax, W.listOf [x0].toArray e) :: news) ∧
    ∀ (I D C : Nat) oI oC mC h tk (E' : Value → Shared → Prop), Fr h₀ L h m → News h₀ L h ((I, oI) :: (C, oC) :: (D, dict0) :: (ax, W.listOf [x0].toArray e) :: news) → NsObj oC mC → mC x = some x0 →
      (∀ p ∈ (ax, W.listOf [x0].toArray e) :: news, p.1 < I) → I < D → D < C →
      wpAny (model prog w) A (eval kx (compEnvC scope cl C env)) (fun kv s₂ => wpAny (model prog w) A (eval vx (compEnvC scope cl C env)) (fun vv s₃ => wpAny (model prog w) A (dictSet D kv vv) (fun _ s₄ =>
        ∀ zG : Prop, (∀ h' tk' gg oC' mC' nw, s₄ = { s₁ with heap := h', toks := tk', gens := gg } → Fr h₀ L h' m → NsObj oC' mC' → News h₀ L h' ((I, oI) :: (C, oC') :: nw) → (ax, W.listOf [x0].toArray e) ∈ nw → (∀ p ∈ nw, p.1 ≠ I ∧ p.1 ≠ C) →
          (∀ h'' tk'', Fr h₀ L h'' (fun z => if z = y then some (.ref D) else m z) → News h₀ L h'' nw → FQ { s₁ with heap := h'', toks := tk'', gens := gg }) → zG) → zG) E' s₃) E' s₂) E' { s₁ with heap := h, toks := tk }
theorem my_Assign_Dict1 {kx vx iter : Expr} {x y : Str} {px py : Pos} {scope : Scope} {cl : List (Str × Addr)} {pos spos : Pos} {Q : Flow → Shared → Prop} (_ : Fr h₀ L s.heap m) (hh : A.handled = none)
    (hsw : swapsWith (.DictComp kx vx [⟨.Name x px, iter, [], 0⟩] scope pos) (some (.Name y py)) spos.line env = pure true)
    (hclos : closureFor scope env = pure cl) (hcell : ∀ y ∈ scope.names, y.2 ≠ .cell) (hkind : scope.kind = .function)
    (hnames : ∀ y ∈ scope.names, y.2 = .local → scope.names.lookup y.1 = some .local) (hx : scope.names.lookup x = some .local)
    (hL : env.locals = L) (hy : env.kindOf y = some .local) (hp : (env.scope.kind == .class || (env.scope.kind == .module && env.locals != env.globals)) = false)
    (h : wpAny (model prog w) A (eval iter env) (Dict1At prog w A h₀ L m env x y kx vx scope cl (fun s₃ => Q .next s₃)) E s)
    (hs : ∀ x, foldedSetIterable iter env x = pure x := by intro _; rfl) :
    wpAny (model prog w) A (exec (.Assign [.Name y py] (.DictComp kx vx [⟨.Name x px, iter, [], 0⟩] scope pos) spos) env) Q E s := by
  rw [exec_Assign_Name_used _ _ _ _ hsw]
  refine wpAny_bind (wpAny_standAt (wpAny_bind ?_))
  show wpAny _ A (do let _ ← comprehension (.DictComp kx vx [⟨.Name x px, iter, [], 0⟩] scope pos) scope env _ newDict false (eval iter env) (some (assign (.Name y py) env))) _ _ s
  refine wpAny_bind (wpAny_mono (wpAny_comprehension_free (use := some (assign (.Name y py) env)) (Q := fun _ s' => Q .next s') rfl hs hclos hkind hnames
    (wpAny_mono h (fun xv s₁ h₁ => ?_) fun _ _ e => e)) (fun _ s' hq => wpAny_pure (wpAny_pure hq)) fun _ _ e => e)
  show (let zG : Prop := _; zG)
  intro zG
  obtain ⟨ax, x0, e, news, rfl, F, N, turn⟩ := h₁
  have zl := N _ (.head _)
  have hl : s₁.heap.IsList ax [x0].toArray := ⟨_, zl.1, rfl, _, rfl⟩
  have hlt : ax < s₁.heap.objs.size := Heap.lt_size zl.1
  (try k_unmd); k_unfold
  refine wpAny_pyIter_list hl ?_
  refine wpAny_newObj_type (wpAny_newFunctionEnv hcell (by intro y hy; simp at hy) (fun h₁ hns hsb => ?_) hkind)
  show (let zG : Prop := _; zG)
  intro zG
  obtain ⟨I, eI⟩ : ∃ I : Nat, I = s₁.heap.objs.size := ⟨_, rfl⟩
  obtain ⟨H1, eH1⟩ : ∃ H, H = s₁.heap.push { cls := .type "list_iterator", data := .fields #[.ref ax, .int 0 0] } := ⟨_, rfl⟩
  (try k_unmd); k_unfold
  dsimp only at hns hsb ⊢
  rw [← eH1] at hns hsb ⊢
  rw [← eI]
  show (let zG : Prop := _; zG)
  intro zG
  obtain ⟨D, eD⟩ : ∃ D : Nat, D = H1.objs.size := ⟨_, rfl⟩
  obtain ⟨H2, eH2⟩ : ∃ H, H = H1.push { cls := .type "dict", data := .dict #[] } := ⟨_, rfl⟩
  (try k_unmd); k_unfold
  rw [← eH2] at hns hsb ⊢
  rw [← eD]
  obtain ⟨C, eC⟩ : ∃ C : Nat, C = H2.objs.size := ⟨_, rfl⟩
  rw [← eC] at hns hsb ⊢
  have eDI : D = I + 1 := by rw [eD, eH1, Heap.size_push, eI]
  have eCD : C = D + 1 := by rw [eC, eH2, Heap.size_push, eD]
  have lo : ∀ (b : Nat) o, s₁.heap.get? b = some o → b < I := fun b o e => eI ▸ Heap.lt_size e
  have fresh₀ : ∀ a : Nat, I ≤ a → h₀.get? a = none := fun a ha => by
    cases e : h₀.get? a with
    | none => rfl
    | some o' => exact absurd (lo _ _ (F.keep a o' e)) (Nat.not_lt.mpr ha)
  have hLI : L < I := eI ▸ F.ns.lt
  have up1 : ∀ (b : Nat) o, H1.get? b = some o → b < D → h₁.get? b = some o := fun b o e hb =>
    hsb.extBut b o (Nat.ne_of_lt (by (first | decide | lia | omega))) (Heap.get?_push_of_some _ (by rw [eH2]; exact Heap.get?_push_of_some _ e))
  have up : ∀ (b : Nat) o, s₁.heap.get? b = some o → h₁.get? b = some o := fun b o e => up1 b o (by rw [eH1]; exact Heap.get?_push_of_some _ e) (by have := lo b o e; (first | decide | lia | omega))
  have hI1 : h₁.get? I = some { cls := .type "list_iterator", data := .fields #[.ref ax, .int 0 0] } := up1 I _ (by rw [eH1, eI]; exact Heap.get?_push_size _ rfl) (by (first | decide | lia | omega))
  have hD1 : h₁.get? D = some dict0 := hsb.extBut D _ (Nat.ne_of_lt (by (first | decide | lia | omega))) (Heap.get?_push_of_some _ (by rw [eH2, eD]; exact Heap.get?_push_size _ rfl))
  have F1 : Fr h₀ L h₁ m := F.keeps up
  have axI : ax < I := lo _ _ zl.1
  have hID : I < D := by rw [eDI]; exact Nat.lt_succ_self _
  have hDC : D < C := by rw [eCD]; exact Nat.lt_succ_self _
  have hIC : I < C := Nat.lt_trans hID hDC
  have hLD : L < D := Nat.lt_trans hLI hID
  have hLC : L < C := Nat.lt_trans hLI hIC
  have loop : ∀ tk₁, codeAny (model prog w) A (.compLoop (.DictComp kx vx [⟨.Name x px, iter, [], 0⟩] scope pos) 0 (.ref I) (.ref D) (compEnvC scope cl C env)) (compPost (model prog w) A E (some (assign (.Name y py) env)) (fun _ s' => Q .next s') (.ref D) C) { s₁ with heap := h₁, toks := tk₁ } := by
    intro tk₁
    obtain ⟨BJ, BJ0, BJ1, BJel⟩ : ∃ BJ : Nat → Shared → Prop, (∀ (h' : Heap) (tk' : Nat) (gg : Array GenState) (oI oC' : Obj) (mC' : Str → Option Value) (nw : List (Addr × Obj)), (∀ h : Heap, h.get? I = some oI → h.IsListIter I ax 1) → Fr h₀ L h' m → NsObj oC' mC' → News h₀ L h' ((I, oI) :: (C, oC') :: nw) → (ax, W.listOf [x0].toArray e) ∈ nw → (∀ p ∈ nw, p.1 ≠ I ∧ p.1 ≠ C) →
          (∀ h'' tk'', Fr h₀ L h'' (fun z => if z = y then some (.ref D) else m z) → News h₀ L h'' nw → Q .next { s₁ with heap := h'', toks := tk'', gens := gg }) → BJ 0 { s₁ with heap := h', toks := tk', gens := gg }) ∧ (∀ tk, BJ 1 { s₁ with heap := h₁, toks := tk }) ∧
        (∀ (zG : Nat → Shared → Prop), (∀ (h' : Heap) (tk' : Nat) (gg : Array GenState) (oI oC' : Obj) (mC' : Str → Option Value) (nw : List (Addr × Obj)), (∀ h : Heap, h.get? I = some oI → h.IsListIter I ax 1) → Fr h₀ L h' m → NsObj oC' mC' → News h₀ L h' ((I, oI) :: (C, oC') :: nw) → (ax, W.listOf [x0].toArray e) ∈ nw → (∀ p ∈ nw, p.1 ≠ I ∧ p.1 ≠ C) →
          (∀ h'' tk'', Fr h₀ L h'' (fun z => if z = y then some (.ref D) else m z) → News h₀ L h'' nw → Q .next { s₁ with heap := h'', toks := tk'', gens := gg }) → zG 0 { s₁ with heap := h', toks := tk', gens := gg }) → (∀ tk, zG 1 { s₁ with heap := h₁, toks := tk }) → ∀ k s', BJ k s' → zG k s') :=
      ⟨fun k s' => ∀ zG : Nat → Shared → Prop, (∀ (h' : Heap) (tk' : Nat) (gg : Array GenState) (oI oC' : Obj) (mC' : Str → Option Value) (nw : List (Addr × Obj)), (∀ h : Heap, h.get? I = some oI → h.IsListIter I ax 1) → Fr h₀ L h' m → NsObj oC' mC' → News h₀ L h' ((I, oI) :: (C, oC') :: nw) → (ax, W.listOf [x0].toArray e) ∈ nw → (∀ p ∈ nw, p.1 ≠ I ∧ p.1 ≠ C) →
          (∀ h'' tk'', Fr h₀ L h'' (fun z => if z = y then some (.ref D) else m z) → News h₀ L h'' nw → Q .next { s₁ with heap := h'', toks := tk'', gens := gg }) → zG 0 { s₁ with heap := h', toks := tk', gens := gg }) → (∀ tk, zG 1 { s₁ with heap := h₁, toks := tk }) → zG k s',
        fun h' tk' gg oI oC' mC' nw a1 a2 a3 a4 a5 a6 a7 _ a _ => a h' tk' gg oI oC' mC' nw a1 a2 a3 a4 a5 a6 a7, fun tk _ _ b => b tk, fun zG a b _ _ h => h zG a b⟩
    refine codeAny_compLoop_testsD BJ ?_ 1 (BJ1 tk₁)
    refine BJel _ ?_ ?_
    · rintro h' tk' gg oI oC' mC' nw hiter F4 hoC' N4 hax hoff hfq
      have zI := N4 _ (.head _)
      have zC := N4 (C, oC') (.tail _ (.head _))
      have zA := N4 _ (.tail _ (.tail _ hax))
      refine wpAny_pyNext_list_end (l := ax) (i := 1) (items := [x0].toArray) hh (hiter _ zI.1) ⟨_, zA.1, rfl, _, rfl⟩ rfl fun h5 hb5 => ?_
      dsimp only
      have k5 : ∀ b o, b ≠ I → h'.get? b = some o → h5.get? b = some o := fun b o hb e => hb5 b o hb e
      have n5 : h5.Ns env.locals m := hL ▸ (F4.ns.at' fun o q => k5 _ o (Nat.ne_of_lt hLI) q)
      have hL₀ : h₀.get? L = none := Heap.get?_none_of_le F.above
      refine wpAny_assign_Name (wpAny_storeName_local hy n5 (fun h6 hn6 hs6 => ⟨mC', ?_, fun h7 hs7 => hfq h7 _ ?_ ?_⟩) hp)
      · rw [hL] at hs6
        exact (hoC'.ns zC.1).at' fun o q => hs6.extBut C o (Nat.ne_of_gt (by first | exact hID | exact hDC | exact hIC | exact hLI | exact hLD | exact hLC | exact Nat.le_of_lt hID | exact Nat.le_of_lt hIC | (first | decide | lia | omega))) (k5 C o (Nat.ne_of_gt (by first | exact hID | exact hDC | exact hIC | exact hLI | exact hLD | exact hLC | exact Nat.le_of_lt hID | exact Nat.le_of_lt hIC | (first | decide | lia | omega))) q)
      · rw [hL] at hs6 hn6
        refine ⟨hn6.sameBut hs7 (Nat.ne_of_lt (by first | exact hID | exact hDC | exact hIC | exact hLI | exact hLD | exact hLC | exact Nat.le_of_lt hID | exact Nat.le_of_lt hIC | (first | decide | lia | omega))), fun b o q => ?_, F.above⟩
        have hbC : b ≠ C := fun e => by rw [e, zC.2.2] at q; cases q
        have hbI : b ≠ I := fun e => by rw [e, zI.2.2] at q; cases q
        have hbL : b ≠ L := fun e => by rw [e, hL₀] at q; cases q
        exact hs7.extBut b o hbC (hs6.extBut b o hbL (k5 b o hbI (F4.keep b o q)))
      · rw [hL] at hs6
        intro p hp
        have z := N4 p (.tail _ (.tail _ hp))
        exact ⟨hs7.extBut _ _ (hoff p hp).2 (hs6.extBut _ _ z.2.1 (k5 _ _ (hoff p hp).1 z.1)), z.2⟩
    · intro tk
      refine wpAny_pyNext_list_item (l := ax) (i := 0) (items := [x0].toArray) ⟨_, hI1, rfl, rfl⟩ ⟨_, up _ _ zl.1, rfl, _, rfl⟩ rfl fun h2 hit2 hs2 => ?_
      dsimp only
      have hnsC : h2.Ns C _ := hns.sameBut hs2 (Nat.ne_of_gt (by first | exact hID | exact hDC | exact hIC | exact hLI | exact hLD | exact hLC | exact Nat.le_of_lt hID | exact Nat.le_of_lt hIC | (first | decide | lia | omega)))
      refine wpAny_assign_Name (wpAny_storeName_local (lookup_relabel_local hx) hnsC (fun h3 hn3 hs3 => wpAny_tests_nil ?_) (by simp [compEnvC, relabel, hkind]))
      rw [if_pos rfl]
      show (let zG : Prop := _; zG)
      intro zG
      obtain ⟨oC, heC, hoC⟩ := ns_obj hn3
      obtain ⟨oI, gI, cI, dI⟩ := hit2.at fun o q => hs3.extBut I o (Nat.ne_of_lt (show I < C from hIC)) q
      have keep : ∀ b o, b ≠ I → b ≠ C → h₁.get? b = some o → h3.get? b = some o := fun b o h1 h2 e => hs3.extBut b o h2 (hs2.extBut b o h1 e)
      have F3 : Fr h₀ L h3 m := (F1.change hs2 (Nat.ne_of_gt hLI) (fresh₀ _ (Nat.le_refl _))).change (show Heap.SameBut C h2 h3 from hs3) (Nat.ne_of_gt (show L < C from hLC)) (fresh₀ C (by first | exact hID | exact hDC | exact hIC | exact hLI | exact hLD | exact hLC | exact Nat.le_of_lt hID | exact Nat.le_of_lt hIC | (first | decide | lia | omega)))
      (try k_unmd); k_unfold
      refine wpAny_mono (turn I D C oI oC _ h3 _ (notedBy (model prog w) A (compEnvC scope cl C env) fun e s' => compPost (model prog w) A E (some (assign (.Name y py) env)) (fun _ s' => Q .next s') (.ref D) C (.error e) s') F3 (fun p hp => ?_) hoC (by simp) (fun p hp => lo _ _ (N p hp).1) (by first | exact hID | exact hDC | exact hIC | exact hLI | exact hLD | exact hLC | exact Nat.le_of_lt hID | exact Nat.le_of_lt hIC | (first | decide | lia | omega)) (by first | exact hID | exact hDC | exact hIC | exact hLI | exact hLD | exact hLC | exact Nat.le_of_lt hID | exact Nat.le_of_lt hIC | (first | decide | lia | omega))) (fun kv s₂ h₂ => wpAny_mono h₂ (fun vv s₃ h₃ => wpAny_mono h₃ (fun _ s₄ h₄ => ?_) fun _ _ x => x) fun _ _ x => x) fun _ _ x => x
      · rcases List.mem_cons.mp hp with rfl | hp
        · exact ⟨gI, Nat.ne_of_gt hLI, fresh₀ _ (Nat.le_refl _)⟩
        rcases List.mem_cons.mp hp with rfl | hp
        · exact ⟨heC, Nat.ne_of_gt (show L < C from hLC), fresh₀ _ (by first | exact hID | exact hDC | exact hIC | exact hLI | exact hLD | exact hLC | exact Nat.le_of_lt hID | exact Nat.le_of_lt hIC | (first | decide | lia | omega))⟩
        rcases List.mem_cons.mp hp with rfl | hp
        · exact ⟨keep _ _ (Nat.ne_of_gt (show I < D from hID)) (Nat.ne_of_lt (show D < C from hDC)) hD1, Nat.ne_of_gt (show L < D from hLD), fresh₀ _ (by first | exact hID | exact hDC | exact hIC | exact hLI | exact hLD | exact hLC | exact Nat.le_of_lt hID | exact Nat.le_of_lt hIC | (first | decide | lia | omega))⟩
        · have := lo _ _ (N p hp).1
          exact ⟨keep _ _ (Nat.ne_of_lt this) (Nat.ne_of_lt (by first | exact hID | exact hDC | exact hIC | exact hLI | exact hLD | exact hLC | exact Nat.le_of_lt hID | exact Nat.le_of_lt hIC | (first | decide | lia | omega))) (up _ _ (N p hp).1), (N p hp).2⟩
      · refine ⟨0, Nat.zero_lt_succ _, h₄ _ ?_⟩
        rintro h' tk' gg oC' mC' nw rfl F4 hoC' N4 hax hoff hfq
        exact BJ0 h' tk' gg oI oC' mC' nw (fun h e => ⟨oI, e, cI, dI⟩) F4 hoC' N4 hax hoff hfq
  exact codeAny_compStart_dict (loop _) ((Walks.list (prog := prog) (w := w) hh I ax (Nat.ne_of_lt axI) [x0].toArray).self 0 _ _ _ ⟨⟨_, hI1, rfl, rfl⟩, ⟨_, up _ _ zl.1, rfl, _, rfl⟩⟩ (loop _))
end
end Mine.Internal
end PartDC
section PartDX
open PySem PySem.W PyProof.Rows PyProof.Rows.LCg
set_option maxHeartbeats 2000000
namespace Mine.Internal
section
variable {prog : Program} {w : World} {A : Around} {E : Value → Shared → Prop} {s : Shared} {h₀ : Heap} {L : Nat} {m : Str → Option Value} {l : List (Addr × Obj)}
theorem dict0_of (h : Heap) (D : Nat) (hD : h.get? D = some dict0) : h.DictOf (PySem.strKind prog w) D [] :=
  ⟨dict0, #[], 0, hD, by first | exact ⟨rfl, rfl⟩ | exact rfl | simp [Obj.ExactDict], rfl, by intro i hi; exact absurd hi (by simp), .nil, by simp⟩
theorem dictSet_new {D : Nat} {x : Str} {tt : Tok} {v : Value} {Q : Unit → Shared → Prop} (F : Fr h₀ L s.heap m) (N : News h₀ L s.heap ((D, dict0) :: l)) (hD : ∀ p ∈ l, p.1 ≠ D)
    (h : ∀ h' o' tk', Fr h₀ L h' m → News h₀ L h' ((D, o') :: l) → o'.IsDictOf (PySem.strKind prog w) [(x, v)] → Q () { s with heap := h', toks := tk' }) :
    wpAny (model prog w) A (dictSet D (.str x tt) v) Q E s := by
  have z := N _ (.head _)
  refine wpAny_dictSet_pairs (k := x) (hsz := by size_fits) (strKind_is _ _ _ _) (dict0_of _ _ z.1) fun h' hm hs => ?_
  show (let zG : Prop := _; zG)
  intro zG
  obtain ⟨o', ho', hd'⟩ := Heap.dictOf_iff.mp hm
  (try k_unmd); k_unfold
  exact h h' o' _ (F.change hs z.2.1 z.2.2) (news_set1 N hD hs ho') hd'
theorem item_one {D : Nat} {o : Obj} {x : Str} {tt : Tok} {v : Value} {value slice : PySem.Expr} {Q : Value → Shared → Prop} (N : News h₀ L s.heap l) (hp : (D, o) ∈ l) (hd : o.IsDictOf (PySem.strKind prog w) [(x, v)]) (h : Q v { s with toks := s.toks + 1 })
    (hs : subscripted slice false (.ref D) (.str x tt) = operate [.ref D, .str x tt] (getItem (.ref D) (.str x tt)) := by with_unfolding_all rfl) (hg : ∀ r, letTemporaryGo value (.ref D) r = pure () := by intro _; with_unfolding_all rfl) :
    wpAny (model prog w) A (subscriptTail value slice (.ref D) (.str x tt)) Q E s :=
  kda_item (knd := PySem.strKind prog w) (k := x) N hp hd (strKind_is _ _ _ _) (by simp [valueAt]) h hs hg
end
end Mine.Internal
end PartDX
section PartTP
open PySem PySem.W PyProof.Rows
namespace Mine.Internal
noncomputable def SgsAre (vs : List Value) (xs : List (List Nat)) : Prop := A2 (fun v x => ∃ t, v = .str (S x) t) vs xs
theorem SgsAre.app {vs us : List Value} {xs ys : List (List Nat)} (h : SgsAre vs xs) (k : SgsAre us ys) : SgsAre (vs ++ us) (xs ++ ys) := A2.app h k
theorem SgsAre.snoc {vs : List Value} {xs : List (List Nat)} {x : List Nat} {t : Tok} (h : SgsAre vs xs) : SgsAre (vs ++ [.str (S x) t]) (xs ++ [x]) := h.app ⟨⟨t, rfl⟩, trivial⟩
theorem SgsAre.length {vs : List Value} {xs : List (List Nat)} (h : SgsAre vs xs) : vs.length = xs.length := A2.length h
theorem SgsAre.get {vs : List Value} {xs : List (List Nat)} {i : Nat} {x : List Nat} (h : SgsAre vs xs) (e : xs[i]? = some x) : ∃ t, vs[i]? = some (.str (S x) t) := by
  show (let zG : Prop := _; zG)
  intro zG
  obtain ⟨_, h1, t, rfl⟩ := A2.got h e
  (try k_unmd); k_unfold
  exact ⟨t, h1⟩
noncomputable def InsAt (news : List (Addr × Obj)) (vs : List Value) (xs : List (List Nat)) : Prop :=
  A2 (fun v x => ∃ (a e : Nat) (ws : List Value), v = .ref a ∧ (a, W.listOf ws.toArray e) ∈ news ∧ IntsAre ws (NI x)) vs xs
theorem InsAt.mono {news news' : List (Addr × Obj)} (hs : ∀ p ∈ news, p ∈ news') {vs : List Value} {xs : List (List Nat)} (h : InsAt news vs xs) : InsAt news' vs xs :=
  A2.mono (fun _ _ ⟨a, e, ws, h1, h2, h3⟩ => ⟨a, e, ws, h1, hs _ h2, h3⟩) h
theorem InsAt.length {news : List (Addr × Obj)} {vs : List Value} {xs : List (List Nat)} (h : InsAt news vs xs) : vs.length = xs.length := A2.length h
theorem InsAt.get {news : List (Addr × Obj)} {vs : List Value} {xs : List (List Nat)} {i : Nat} {x : List Nat} (h : InsAt news vs xs) (k : xs[i]? = some x) : ∃ (a e : Nat) (ws : List Value), vs[i]? = some (.ref a) ∧ (a, W.listOf ws.toArray e) ∈ news ∧ IntsAre ws (NI x) := by
  show (let zG : Prop := _; zG)
  intro zG
  obtain ⟨_, h0, a, e, ws, rfl, h2, h3⟩ := A2.got h k
  (try k_unmd); k_unfold
  exact ⟨a, e, ws, h0, h2, h3⟩
noncomputable def toldO (names : List (List Nat)) (inside : List (List Nat)) : Nat → Nat → Option (List (List Nat))
  | 0, _ => none
  | k + 1, p => (names[p]?).bind fun w => (inside[p]?).bind fun ds => (mapO (toldO names inside k) ds).bind fun mid => some ([60 :: w, [62]] ++ mid.flatten ++ [60 :: 47 :: w ++ [62]])
theorem told_split {names inside : List (List Nat)} {k p : Nat} {xs : List (List Nat)} (h : toldO names inside (k + 1) p = some xs) :
    ∃ w ds mid, names[p]? = some w ∧ inside[p]? = some ds ∧ mapO (toldO names inside k) ds = some mid ∧ xs = [60 :: w, [62]] ++ mid.flatten ++ [60 :: 47 :: w ++ [62]] :=
  bind_inv (o := names[p]?) h fun w hw h => bind_inv h fun ds hd h => bind_inv h fun mid hm h => ⟨w, ds, mid, hw, hd, hm, (Option.some.inj h).symm⟩
theorem mapO_get {α β : Type} {f : α → Option β} {l : List α} : ∀ {bs : List β} {i : Nat} {a : α}, mapO f l = some bs → l[i]? = some a → ∃ b, f a = some b ∧ bs[i]? = some b ∧ mapO f (l.take i) = some (bs.take i) ∧ mapO f (l.take (i + 1)) = some (bs.take (i + 1)) := by
  induction l with
  | nil => intro bs i a _ h; cases h
  | cons x r ih =>
    intro bs i a h hi
    refine mapO_inv h fun y ys hx hr e => ?_
    cases e
    cases i with
    | zero => cases Option.some.inj hi; exact ⟨y, hx, rfl, rfl, mapO_mk hx rfl⟩
    | succ i =>
      show (let zG : Prop := _; zG)
      intro zG
      obtain ⟨b', q1, q2, q3, q4⟩ := ih hr (i := i) (a := a) hi
      (try k_unmd); k_unfold
      exact ⟨b', q1, q2, mapO_mk hx q3, mapO_mk hx q4⟩
theorem flat_take {bs : List (List (List Nat))} {i : Nat} {b : List (List Nat)} (h : bs[i]? = some b) : (bs.take (i + 1)).flatten = (bs.take i).flatten ++ b := by
  rw [List.take_add_one, h]; simp
theorem flat_lenT (bs : List (List (List Nat))) (i : Nat) : (bs.take i).flatten.length ≤ bs.flatten.length := by
  have h : bs.flatten = (bs.take i).flatten ++ (bs.drop i).flatten := by rw [← List.flatten_append, List.take_append_drop]
  rw [h, List.length_append]
  exact Nat.le_add_right _ _
theorem mapO_length {α β : Type} {f : α → Option β} {l : List α} : ∀ {bs : List β}, mapO f l = some bs → bs.length = l.length := by
  induction l with
  | nil => intro bs h; cases Option.some.inj h; rfl
  | cons x r ih => intro bs h; refine mapO_inv h fun y ys hx hr e => ?_; cases e; exact congrArg (· + 1) (ih hr)
theorem TabOk.filt {pos : Pos} {qual : Str} {ps : Array Value} {h₀ h : Heap} {L : Addr} {news : List (Addr × Obj)} {I a i : Nat} {oI : Obj} (H : TabOk pos qual ps news) (N : News h₀ L h news) (hI : h.get? I = some oI) (hd : oI.data = .fields #[.ref a, .int i 0]) :
    TabOk pos qual ps (news.filter fun q => q.1 != I) := by
  rcases H with H | ⟨c, oc, vs, t, h1, h2, h3, h4⟩
  · exact .inl H
  · refine .inr ⟨c, oc, vs, t, h1, List.mem_filter.mpr ⟨h2, ?_⟩, h3, h4⟩
    have hne : c ≠ I := by
      rintro rfl
      have := (N _ h2).1.symm.trans hI
      show (let zG : Prop := _; zG)
      intro zG
      obtain rfl := Option.some.inj this
      rw [hd] at h3
      obtain rfl : #[Value.ref a, Value.int i 0] = vs := by injection h3
      (try k_unmd); k_unfold
      simp at h4
    simpa using hne
end Mine.Internal
end PartTP
section PartLX
open PySem PySem.W PyProof.Rows PyProof.Rows.LCg
set_option maxHeartbeats 2000000
namespace Mine.Internal
noncomputable def RdParts (K : Frag) (ps : Arguments) (bd : List Stmt) (sc : Scope) : Prop :=
  ∃ (oc : Value) (od : Option Addr) (fd : FuncData) (osl : Array (Option Value)) (x1 x2 : Stmt) (n n2 : Str) (pos : Pos) (rest : List Stmt), K.lookup 224 = some ⟨oc, od, .func fd, osl⟩ ∧ fd.body = .stmts (x1 :: x2 :: .FunctionDef n ps bd [] none [] sc none n2 pos :: rest)
theorem RdParts.eq {K : Frag} {ps ps' : Arguments} {bd bd' : List Stmt} {sc sc' : Scope} (h : RdParts K ps bd sc) (h' : RdParts K ps' bd' sc') : ps = ps' ∧ bd = bd' ∧ sc = sc' := by
  show (let zG : Prop := _; zG)
  intro zG
  obtain ⟨oc, od, fd, osl, x1, x2, n, n2, pos, rest, e, b⟩ := h
  (try k_unmd); k_unfold
  show (let zG : Prop := _; zG)
  intro zG
  obtain ⟨oc', od', fd', osl', x1', x2', n', n2', pos', rest', e', b'⟩ := h'
  have := e.symm.trans e'
  (try k_unmd); k_unfold
  injection this with this
  injection this with _ _ this _
  injection this with this
  rw [this, b'] at b
  injection b with b
  injection b with _ b
  injection b with _ b
  injection b with b _
  injection b with _ h1 h2 _ _ _ h3 _ _ _
  exact ⟨h1.symm, h2.symm, h3.symm⟩
noncomputable def RdFn (K : Frag) (news : List (Addr × Obj)) (f cT cP : Addr) : Prop :=
  ∃ (ps : Arguments) (bd : List Stmt) (sc : Scope) (qual : Str) (dc pm ctv : Value) (c' : Addr) (oc : Obj) (vs : Array Value) (t : Tok), RdParts K ps bd sc ∧
    (f, fnMade (Str.ofString "read") qual ps bd sc [(Str.ofString "text", cT), (Str.ofString "place", cP)] dc pm c' ctv) ∈ news ∧ (c', oc) ∈ news ∧ oc.data = .fields vs ∧ vs[1]? = some (.str qual t)
theorem RdFn.mono {K : Frag} {news news' : List (Addr × Obj)} {f cT cP : Addr} (h : RdFn K news f cT cP) (hs : ∀ p ∈ news, p ∈ news') : RdFn K news' f cT cP := by
  obtain ⟨ps, bd, sc, qual, dc, pm, ctv, c', oc, vs, t, h1, h2, h3, h4, h5⟩ := h
  exact ⟨ps, bd, sc, qual, dc, pm, ctv, c', oc, vs, t, h1, hs _ h2, hs _ h3, h4, h5⟩
theorem RdFn.pick {K : Frag} {news news' : List (Addr × Obj)} {f cT cP : Addr} (h : RdFn K news f cT cP) (hs : ∀ p ∈ news, ((∃ fd, p.2.data = .func fd) ∨ ∃ vs q t, p.2.data = .fields vs ∧ vs[1]? = some (.str q t)) → p ∈ news') : RdFn K news' f cT cP := by
  obtain ⟨ps, bd, sc, qual, dc, pm, ctv, c', oc, vs, t, h1, h2, h3, h4, h5⟩ := h
  exact ⟨ps, bd, sc, qual, dc, pm, ctv, c', oc, vs, t, h1, hs _ h2 (.inl ⟨_, rfl⟩), hs _ h3 (.inr ⟨vs, qual, t, h4, h5⟩), h4, h5⟩
end Mine.Internal
end PartLX
section PartPT2
open PySem PySem.W PyProof.Rows PyProof.Rows.LCg
set_option maxHeartbeats 2000000
namespace Mine.Internal
theorem put_ln {w : World} (vo vln : Value) (BX pb : Nat) (x1 x2 x3 x4 x5 : Tok) (el : Nat) (u : Tok) :
  (putL (Str.ofString "lineno") (PyData.keyHash w.params (Str.ofString "lineno")) (.str (Str.ofString "lineno") u) vln [{ hash := PyData.keyHash w.params (Str.ofString "lineno"), key := Value.str (Str.ofString "lineno") x1, val := vo }, { hash := PyData.keyHash w.params (Str.ofString "instream"), key := Value.str (Str.ofString "instream") x2, val := Value.ref BX }, { hash := PyData.keyHash w.params (Str.ofString "whitespace"), key := Value.str (Str.ofString "whitespace") x3, val := Value.str (Str.ofString "\n\t\r ") x4 }, { hash := PyData.keyHash w.params (Str.ofString "pushback"), key := Value.str (Str.ofString "pushback") x5, val := Value.ref pb }], putN (Str.ofString "lineno") [{ hash := PyData.keyHash w.params (Str.ofString "lineno"), key := Value.str (Str.ofString "lineno") x1, val := vo }, { hash := PyData.keyHash w.params (Str.ofString "instream"), key := Value.str (Str.ofString "instream") x2, val := Value.ref BX }, { hash := PyData.keyHash w.params (Str.ofString "whitespace"), key := Value.str (Str.ofString "whitespace") x3, val := Value.str (Str.ofString "\n\t\r ") x4 }, { hash := PyData.keyHash w.params (Str.ofString "pushback"), key := Value.str (Str.ofString "pushback") x5, val := Value.ref pb }] el) = (([{ hash := PyData.keyHash w.params (Str.ofString "lineno"), key := Value.str (Str.ofString "lineno") x1, val := vln }, { hash := PyData.keyHash w.params (Str.ofString "instream"), key := Value.str (Str.ofString "instream") x2, val := Value.ref BX }, { hash := PyData.keyHash w.params (Str.ofString "whitespace"), key := Value.str (Str.ofString "whitespace") x3, val := Value.str (Str.ofString "\n\t\r ") x4 }, { hash := PyData.keyHash w.params (Str.ofString "pushback"), key := Value.str (Str.ofString "pushback") x5, val := Value.ref pb }] : List DictEntry), el) := by
  with_unfolding_all rfl
end Mine.Internal
end PartPT2
section PartIT
open PySem PySem.Calls PySem.Spec PySem.W PyProof.Rows PyProof.Rows.LCg
set_option maxHeartbeats 2000000
namespace Mine.Internal
theorem owner_ci : Manifest.owners.lookup (String.ofList ['r', 'o', 't', 'a', 'r', 'e', 't', 'i', '_', 'e', 'l', 'b', 'a', 'l', 'l', 'a', 'c'].reverse) = some Manifest.sig_callable_iterator := by kernel_rfl
theorem slot_ci_next : Slot "callable_iterator" "__next__" "callable_iterator.__next__" :=
  .of (owner := "callable_iterator") (n := "__next__") (by rw [typeLookup_type, builtinLookup_eq_fast]; kernel_rfl) (by decide +kernel) (by decide +kernel) (by decide +kernel)
    (by first | exact .inl (by decide +kernel) | exact .inr (by decide +kernel)) (by rw [isSubtype_type]; kernel_rfl)
theorem entry_ci_next : entryFor table "callable_iterator.__next__" = some Builtin.«callable_iterator.__next__» := entryFor_of_tree (by kernel_rfl)
theorem args_ci_next (a : Value) : argsOk "callable_iterator.__next__" ⟨[a], []⟩ := by
  unfold argsOk; rw [signature?_of (id := "callable_iterator.__next__") (n := ['_', '_', 't', 'x', 'e', 'n', '_', '_']) (o := ['r', 'o', 't', 'a', 'r', 'e', 't', 'i', '_', 'e', 'l', 'b', 'a', 'l', 'l', 'a', 'c']) (by kernel_rfl) owner_ci]; kernel_rfl
theorem slot_ci_iter : Slot "callable_iterator" "__iter__" "callable_iterator.__iter__" :=
  .of (owner := "callable_iterator") (n := "__iter__") (by rw [typeLookup_type, builtinLookup_eq_fast]; kernel_rfl) (by decide +kernel) (by decide +kernel) (by decide +kernel)
    (by first | exact .inl (by decide +kernel) | exact .inr (by decide +kernel)) (by rw [isSubtype_type]; kernel_rfl)
theorem args_ci_iter (a : Value) : argsOk "callable_iterator.__iter__" ⟨[a], []⟩ := by
  unfold argsOk; rw [signature?_of (id := "callable_iterator.__iter__") (n := ['_', '_', 'r', 'e', 't', 'i', '_', '_']) (o := ['r', 'o', 't', 'a', 'r', 'e', 't', 'i', '_', 'e', 'l', 'b', 'a', 'l', 'l', 'a', 'c']) (by kernel_rfl) owner_ci]; kernel_rfl
theorem entry_ci_iter : entryFor table "callable_iterator.__iter__" = some Builtin.«dict_keyiterator.__iter__» :=
  entryFor_alias (id' := "dict_keyiterator.__iter__") (by kernel_rfl) (by first | rfl | decide +kernel | (unfold String.splitOn; simp +decide [String.splitOnAux])) (by decide +kernel) (by kernel_rfl)
theorem wp_callBorrowed' {M : Model} {Γ : PySem.Ctx} {f : Value} {pos : List Value} {Q : Value → Pos → Shared → Prop} {E : Value → Pos → Shared → Prop} {p : Pos} {s : Shared} :
    Sem.wp M Γ (callBorrowed f pos) Q E p s = Sem.wp M Γ (call f pos) Q E p s := by
  unfold callBorrowed call
  rw [Sem.wp_call, Sem.wp_runValue]
  congr 1
  funext r s'
  cases r with
  | error e => simp
  | ok fl => cases fl <;> simp
theorem wpAny_callBorrowed {M : Model} {A : Around} {f : Value} {pos : List Value} {Q : Value → Shared → Prop} {E : Value → Shared → Prop} {s : Shared} (h : wpAny M A (call f pos) Q E s) : wpAny M A (callBorrowed f pos) Q E s :=
  fun Γ p hΓ => by rw [wp_callBorrowed']; exact h Γ p hΓ
section
variable {prog : Program} {w : World} {A : Around} {E : Value → Shared → Prop} {s : Shared}
noncomputable def CiAt (h : Heap) (I bm : Nat) (tS : Tok) : Prop := ∃ o, h.get? I = some o ∧ o.cls = .type "callable_iterator" ∧ o.data = .fields #[.ref bm, .str (S []) tS, .bool false]
theorem CiAt.typeIs {I bm : Nat} {tS : Tok} (h : CiAt s.heap I bm tS) : s.TypeIs (.ref I) "callable_iterator" := by
  show (let zG : Prop := _; zG)
  intro zG
  obtain ⟨o, ho, hc, _⟩ := h
  (try k_unmd); k_unfold
  exact ⟨o, ho, hc⟩
noncomputable def BmAt (h : Heap) (bm LX : Nat) : Prop := h.get? bm = some (methodObj (.ref 66) (.ref LX)) ∧ FnAt 66 h
theorem borrows_bm {bm LX : Nat} {Q : Bool → Shared → Prop} (hb : BmAt s.heap bm LX) (h : Q true s) : wpAny (model prog w) A (borrowsExactly (.ref bm)) Q E s := by
  unfold borrowsExactly
  show (let zG : Prop := _; zG)
  intro zG
  obtain ⟨hb, oc, od, fd, sl, e⟩ := hb
  (try k_unmd); k_unfold
  refine wpAny_bind (wpAny_load hb ?_)
  dsimp only
  rw [if_pos (by decide)]
  show wpAny _ _ (load 66 >>= _) _ _ _
  refine wpAny_bind (wpAny_load e ?_)
  exact wpAny_pure h
theorem ci_iter {I bm : Nat} {tS : Tok} {Q : Value → Shared → Prop} (hci : CiAt s.heap I bm tS) (h : Q (.ref I) s) : wpAny (model prog w) A (pyIter (.ref I)) Q E s := by
  refine wpAny_pyIter_slot hci.typeIs slot_ci_iter (wpAny_call_entry slot_ci_iter hci.typeIs entry_ci_iter ?_ (args_ci_iter _))
  show wpAny _ _ (ret (.ref I)) _ _ s
  exact wpAny_pure ⟨_, rfl, "callable_iterator", _, hci.typeIs, slot_ci_next.lookup, h⟩
theorem ci_next {I bm LX : Nat} {tS : Tok} {Q : Option Value → Shared → Prop} (hh : A.handled = none) (hci : CiAt s.heap I bm tS) (hb : BmAt s.heap bm LX)
    (hc : codeAny (model prog w) A.in1 (.call (.ref 66) ⟨[.ref LX], []⟩) (fun r s' => match r with
      | .ok (.ret v) => ∃ x t, v = .str (S x) t ∧ CiAt s'.heap I bm tS ∧ BmAt s'.heap bm LX ∧ (x ≠ [] → Q (some v) s') ∧ (x = [] → ∀ h', Heap.ExtBut I s'.heap h' → Q none { s' with heap := h' })
      | .ok _ => False
      | .error e => False) s) :
    wpAny (model prog w) A (pyNext (.ref I)) Q E s := by
  have hT := hci.typeIs
  show (let zG : Prop := _; zG)
  intro zG
  obtain ⟨o, ho, hcl, hd⟩ := id hci
  (try k_unmd); k_unfold
  unfold pyNext
  refine wpAny_bind (wpAny_attempt (wpAny_callSpecial?_slot (name := Str.ofString "__next__") hT slot_ci_next (wpAny_call_entry slot_ci_next hT entry_ci_next ?_ (args_ci_next _))))
  show wpAny _ _ (field (.ref I) 2 >>= _) _ _ s
  refine wpAny_bind (wpAny_field ho hd (x := .bool false) rfl ?_)
  rw [if_neg (by decide)]
  refine wpAny_bind (wpAny_field ho hd (x := .ref bm) rfl ?_)
  refine wpAny_bind (wpAny_attempt ?_)
  unfold callOutOfASlot
  refine wpAny_bind (borrows_bm hb ?_)
  rw [if_pos rfl]
  refine wpAny_callBorrowed (wpAny_call (method_call hb.1 (codeAny_mono hc fun r s' hr => ?_)))
  cases r with
  | error e => exact hr.elim
  | ok fl =>
    cases fl with
    | ret v =>
      show (let zG : Prop := _; zG)
      intro zG
      obtain ⟨x, t, rfl, hci', hb', hsome, hnone⟩ := hr
      (try k_unmd); k_unfold
      show (let zG : Prop := _; zG)
      intro zG
      obtain ⟨o', ho', hcl', hd'⟩ := id hci'
      (try k_unmd); k_unfold
      dsimp only
      refine wpAny_bind (wpAny_field ho' hd' (x := .bool false) rfl ?_)
      rw [if_neg (by decide)]
      refine wpAny_bind (wpAny_field ho' hd' (x := .str (S []) tS) rfl ?_)
      refine wpAny_bind (wpAny_holding (wpAny_eqBool_str ?_))
      by_cases hx : x = []
      · subst hx
        rw [if_neg (by simp)]
        refine wpAny_bind (wpAny_rule (wpAny_bind ?_))
        show wpAny _ _ (field (.ref I) 0 >>= _) _ _ _
        refine wpAny_bind (wpAny_field ho' hd' (x := .ref bm) rfl ?_)
        refine wpAny_bind ?_
        show wpAny _ _ (borrowsExactly (.ref bm) >>= _) _ _ _
        refine wpAny_bind (borrows_bm hb' ?_)
        rw [if_pos rfl]
        refine wpAny_pure ?_
        have hs1 := Heap.SameBut.update s'.heap I (Obj.mapFields (·.setIfInBounds 0 .none))
        refine wpAny_bind (wpAny_setField ho' hd' (by simp) ?_)
        show (let zG : Prop := _; zG)
        intro zG
        obtain ⟨o2, ho2, hd2⟩ : ∃ o2, (s'.heap.update I (Obj.mapFields (·.setIfInBounds 0 .none))).get? I = some o2 ∧ o2.data = .fields #[.none, .str (S []) tS, .bool false] :=
          ⟨_, Heap.get?_update_self _ ho' (Obj.isFreed_of_fields (Obj.data_mapFields hd' _)), by rw [Obj.data_mapFields hd']; rfl⟩
        have hs2 := Heap.SameBut.update (s'.heap.update I (Obj.mapFields (·.setIfInBounds 0 .none))) I (Obj.mapFields (·.setIfInBounds 1 .none))
        (try k_unmd); k_unfold
        refine wpAny_bind (wpAny_setField ho2 hd2 (by simp) ?_)
        show (let zG : Prop := _; zG)
        intro zG
        obtain ⟨o3, ho3, hd3⟩ : ∃ o3, ((s'.heap.update I (Obj.mapFields (·.setIfInBounds 0 .none))).update I (Obj.mapFields (·.setIfInBounds 1 .none))).get? I = some o3 ∧ o3.data = .fields #[.none, .none, .bool false] :=
          ⟨_, Heap.get?_update_self _ ho2 (Obj.isFreed_of_fields (Obj.data_mapFields hd2 _)), by rw [Obj.data_mapFields hd2]; rfl⟩
        have hs3 := Heap.SameBut.update ((s'.heap.update I (Obj.mapFields (·.setIfInBounds 0 .none))).update I (Obj.mapFields (·.setIfInBounds 1 .none))) I (Obj.mapFields (·.setIfInBounds 2 (.bool true)))
        (try k_unmd); k_unfold
        refine wpAny_setField ho3 hd3 (by simp) ?_
        show wpAny _ _ (newExc (.type "StopIteration") [] >>= _) _ _ _
        refine wpAny_bind ?_
        simp only [newExc, newTuple]
        refine wpAny_bind (wpAny_newObj_type ?_ (by size_fits))
        refine wpAny_bind (m := firstArgMember _ _) (wpAny_of_eq (a := Value.none) (by first | rfl | (simp only [firstArgMember]; rfl)) ?_)
        refine wpAny_newObj_type ?_ (by size_fits)
        dsimp only
        refine wpAny_bind (wpAny_handled ?_)
        rw [show A.in1.handled = none from hh]
        refine wpAny_bind (wpAny_pure (wpAny_throw ?_))
        refine wpAny_bind (wpAny_isInstance (T := "StopIteration") (b := true) ⟨_, Heap.get?_push_size _ rfl, rfl⟩ isSubtype_stop ?_)
        exact wpAny_pure (hnone rfl _ ((((hs1.trans hs2).trans hs3).extBut.push _).push _))
      · rw [if_pos (by simp [S]; exact fun h => hx h)]
        exact wpAny_bind (wpAny_pure (wpAny_pure ⟨_, rfl, wpAny_pure (hsome hx)⟩))
    | _ => exact hr.elim
theorem args_iter2 (a b : Value) : argsOk "iter" ⟨[a, b], []⟩ := by unfold argsOk; kernel_rfl
theorem lookup_meth_call : typeLookup (.type "method") "__call__" = pure (some (.builtin "method.__call__")) := by rw [typeLookup_type, builtinLookup_eq_fast]; kernel_rfl
noncomputable abbrev ciObj (bm : Nat) (tS : Tok) : Obj := { cls := .type "callable_iterator", data := .fields #[.ref bm, .str (S []) tS, .bool false] }
theorem iter_call {h₀ : Heap} {L : Nat} {m : Str → Option Value} {news : List (Addr × Obj)} {bm LX : Nat} {tS : Tok} {Q : Value → Shared → Prop} (F : Fr h₀ L s.heap m) (N : News h₀ L s.heap news) (hm : (bm, methodObj (.ref 66) (.ref LX)) ∈ news)
    (h : ∀ (I : Nat) h', Fr h₀ L h' m → News h₀ L h' ((I, ciObj bm tS) :: news) → (∀ p ∈ news, p.1 < I) → Q (.ref I) { s with heap := h' }) :
    wpAny (model prog w) A (call (.builtin "iter") [.ref bm, .str (S []) tS]) Q E s := by
  have hT : s.TypeIs (.ref bm) "method" := ⟨_, (N _ hm).1, rfl⟩
  refine call_function_entry (by decide +kernel) (by decide +kernel) kdk_entry_iter (args_iter2 _ _) ?_
  unfold Builtin.«iter»
  refine wpAny_bind (m := someArgs "iter" 1 2 _) (wpAny_of_eq (a := [Value.ref bm, .str (S []) tS]) (by first | rfl | kernel_rfl!) ?_)
  dsimp only
  refine wpAny_bind (wpAny_specialOf (name := Str.ofString "__call__") hT lookup_meth_call ?_)
  rw [if_neg (by decide)]
  refine wpAny_bind (wpAny_rule ?_)
  refine wpAny_bind (wpAny_newObj_type ?_)
  refine wpAny_pure ⟨_, rfl, ?_⟩
  have hlt : ∀ p ∈ news, p.1 < s.heap.objs.size := fun p hp => Heap.lt_size (N p hp).1
  refine h s.heap.objs.size _ (F.push _) (fun p hp => ?_) hlt
  rcases List.mem_cons.mp hp with rfl | hp
  · exact ⟨Heap.get?_push_size _ rfl, Nat.ne_of_gt F.ns.lt, next_is_new F⟩
  · exact ⟨Heap.get?_push_of_some _ (N p hp).1, (N p hp).2⟩
end
end Mine.Internal
end PartIT
section PartIF
open PySem PySem.Calls PySem.Spec PySem.W PyProof.Rows PyProof.Rows.LCg
set_option maxHeartbeats 2000000
namespace Mine.Internal
section
variable {prog : Program} {w : World} {A : Around} {env : Env} {E : Value → Shared → Prop} {s : Shared}
noncomputable def CiStep (J : Nat → Shared → Prop) (n : Nat) (s₃ : Shared) : Prop := ∃ k, k < n ∧ J k s₃
noncomputable def CiTurn (prog : Program) (w : World) (A : Around) (env : Env) (target : Expr) (body : List Stmt) (E : Value → Shared → Prop) (J : Nat → Shared → Prop) (Q : Flow → Shared → Prop) (I bm LX : Nat) (tS : Tok) (n : Nat) (r : Result) (s' : Shared) : Prop :=
  match r with
  | .ok (.ret v) => ∃ x t, v = .str (S x) t ∧ CiAt s'.heap I bm tS ∧ BmAt s'.heap bm LX ∧
      (x ≠ [] → wpAny (model prog w) A (assign target env v) (fun _ s₂ => wpAny (model prog w) A (execs body env) (fun f s₃ => match f with
          | .next | .cont => CiStep J n s₃
          | .brk => Q .next s₃
          | .ret v => Q (.ret v) s₃) E s₂) E s') ∧
      (x = [] → ∀ h', Heap.ExtBut I s'.heap h' → Q .next { s' with heap := h' })
  | .ok _ => False
  | .error _ => False
noncomputable def CiIn (J : Nat → Shared → Prop) (I bm : Nat) (tS : Tok) (xv : Value) (s₁ : Shared) : Prop := xv = .ref I ∧ CiAt s₁.heap I bm tS ∧ ∃ n, J n s₁
theorem ci_For {x : Str} {px : Pos} {iter : Expr} {body : List Stmt} {pos : Pos} {Q : Flow → Shared → Prop} {I bm LX : Nat} {tS : Tok} (hh : A.handled = none) (J : Nat → Shared → Prop)
    (h : wpAny (model prog w) A (eval iter env) (CiIn J I bm tS) E s)
    (turn : ∀ n s, J n s → CiAt s.heap I bm tS ∧ BmAt s.heap bm LX ∧ codeAny (model prog w) A.in1 (.call (.ref 66) ⟨[.ref LX], []⟩) (CiTurn prog w A env (.Name x px) body E J Q I bm LX tS n) s)
    (hs : ∀ x, foldedSetIterable iter env x = pure x := by intro _; rfl)
    (hE : PassesOwn (model prog w) A env E := by passes_own) :
    wpAny (model prog w) A (exec (.For (.Name x px) iter body [] pos) env) Q E s := by
  refine wpAny_For (wpAny_mono h (fun xv s₁ h₁ => ?_) fun _ _ e => e) hs
  show (let zG : Prop := _; zG)
  intro zG
  obtain ⟨rfl, hci, n, hJ⟩ := h₁
  (try k_unmd); k_unfold
  refine ci_iter hci ?_
  refine codeAny_forLoop_any J ?_ n hJ
  intro n s hJ
  show (let zG : Prop := _; zG)
  intro zG
  obtain ⟨hci, hb, hc⟩ := turn n s hJ
  (try k_unmd); k_unfold
  refine ci_next hh hci hb (codeAny_mono hc fun r s' hr => ?_)
  cases r with
  | error e => exact hr
  | ok fl =>
    cases fl with
    | ret v =>
      show (let zG : Prop := _; zG)
      intro zG
      obtain ⟨y, t, zq, h1, h2, h3, h4⟩ := hr
      (try k_unmd); k_unfold
      refine ⟨y, t, zq, h1, h2, fun hy => ?_, fun hy h' he => ?_⟩
      · refine wpAny_pure ?_
        refine wpAny_mono (wpAny_passesOwn hE (h3 hy)) (fun _ s₄ h₄ => wpAny_mono (wpAny_passesOwn hE h₄) (fun f s₅ h₅ => ?_) fun _ _ x => x) fun _ _ x => x
        cases f with
        | ret v => exact h₅
        | brk => exact h₅
        | next => exact h₅
        | cont => exact h₅
      · exact wpAny_pure (h4 hy h' he)
    | _ => exact hr
end
end Mine.Internal
end PartIF
section PartTK
open PySem PySem.W PyProof.Rows
namespace Mine.Internal
noncomputable def isWs (c : Nat) : Bool := c == 10 || c == 9 || c == 13 || c == 32
noncomputable def bump (j : Nat) (o : Option (List Nat × Nat)) : Option (List Nat × Nat) := o.bind fun x => some (x.1, x.2 + j)
theorem bump_s {j k : Nat} {t : List Nat} : bump j (some (t, k)) = some (t, k + j) := rfl
theorem bump_inv {j : Nat} {o : Option (List Nat × Nat)} {tok : List Nat} {kk : Nat} (h : bump j o = some (tok, kk)) : ∃ k, o = some (tok, k) ∧ kk = k + j :=
  bind_inv h fun x hx e => by cases e; exact ⟨x.2, hx, rfl⟩
noncomputable def tokW (acc : List Nat) : List Nat → Option (List Nat × Nat)
  | [] => none
  | c :: r => if isWs c then some (acc, 1) else if c = 92 then match r with
      | [] => none
      | d :: r' => bump 2 (tokW (acc ++ [d]) r')
    else bump 1 (tokW (acc ++ [c]) r)
noncomputable def tokQ (acc : List Nat) : List Nat → Option (List Nat × Nat)
  | [] => none
  | c :: r => if c = 34 then some (acc, 1) else if c = 92 then none else bump 1 (tokQ (acc ++ [c]) r)
theorem tokW_n {acc : List Nat} : tokW acc [] = none := rfl
theorem tokQ_n {acc : List Nat} : tokQ acc [] = none := rfl
theorem tokQ_c {acc : List Nat} {c : Nat} {r : List Nat} : tokQ acc (c :: r) = if c = 34 then some (acc, 1) else if c = 92 then none else bump 1 (tokQ (acc ++ [c]) r) := rfl
noncomputable def tokA : List Nat → Option (List Nat × Nat)
  | [] => some ([], 1)
  | c :: r => if isWs c then bump 1 (tokA r)
    else if c = 34 then bump 1 (tokQ [] r)
    else if c = 92 then match r with
      | [] => none
      | d :: r' => bump 2 (tokW [d] r')
    else bump 1 (tokW [c] r)
theorem tokA_c {c : Nat} {r : List Nat} : tokA (c :: r) = if isWs c then bump 1 (tokA r)
    else if c = 34 then bump 1 (tokQ [] r)
    else if c = 92 then match r with
      | [] => none
      | d :: r' => bump 2 (tokW [d] r')
    else bump 1 (tokW [c] r) := rfl
noncomputable def lnAt (page : List Nat) (p : Nat) : Nat := 1 + (page.take p).count 10
theorem lnAt_succ (page : List Nat) (p : Nat) : (if page[p]? = some 10 then lnAt page p + 1 else lnAt page p) = lnAt page (p + 1) := by
  unfold lnAt
  rw [List.take_add_one]
  cases h : page[p]? with
  | none => simp
  | some c =>
    by_cases hc : c = 10
    · subst hc; simp [List.count_append]; (first | decide | lia | omega)
    · simp [List.count_append, hc]
theorem lnAt_le (page : List Nat) (p : Nat) : lnAt page p ≤ 1 + page.length := by
  unfold lnAt
  have := List.count_le_length (a := 10) (l := page.take p)
  have h2 : (page.take p).length ≤ page.length := by rw [List.length_take]; (first | decide | lia | omega)
  (first | decide | lia | omega)
theorem drop_cons {page r : List Nat} {p c : Nat} (h : page.drop p = c :: r) : page[p]? = some c ∧ page.drop (p + 1) = r ∧ p < page.length := by
  have hp : p < page.length := by
    false_or_by_contra
    rw [List.drop_eq_nil_of_le (by (first | decide | lia | omega))] at h
    cases h
  rw [List.drop_eq_getElem_cons hp] at h
  injection h with h1 h2
  exact ⟨by rw [List.getElem?_eq_getElem hp, h1], h2, hp⟩
theorem drop_nil {page : List Nat} {p : Nat} (h : page.drop p = []) : page[p]? = none ∧ page.length ≤ p := by
  have : page.length ≤ p := by simpa using h
  exact ⟨by simpa using this, this⟩
theorem ws_occ (c : Nat) : (!(Builtin.Str.occurrences (Str.ofString "\n\t\r ") (S [c]) 0 (Str.ofString "\n\t\r ").length 1).isEmpty) = isWs c := by
  have h := StrLaws.found_iff (Str.ofString "\n\t\r ") (S [c])
  have hl : (Str.ofString "\n\t\r ").cps.toList = [10, 9, 13, 32] := by decide +kernel
  have hk : (∃ i, i + (S [c]).length ≤ (Str.ofString "\n\t\r ").length ∧ Builtin.Str.subAt (Str.ofString "\n\t\r ") (S [c]) i = true) ↔ isWs c = true := by
    constructor
    · rintro ⟨i, hi⟩
      have := (StrLaws.subAt_one (Str.ofString "\n\t\r ") c i).mp hi
      rw [hl] at this
      have hm := List.mem_of_getElem? this
      simp only [List.mem_cons, List.not_mem_nil, or_false] at hm
      rcases hm with rfl | rfl | rfl | rfl <;> rfl
    · intro hw
      have hm : c ∈ [10, 9, 13, 32] := by
        unfold isWs at hw
        simp only [Bool.or_eq_true, beq_iff_eq] at hw
        simp only [List.mem_cons, List.not_mem_nil, or_false]
        (first | decide | lia | omega)
      obtain ⟨i, hi⟩ := List.getElem?_of_mem hm
      exact ⟨i, (StrLaws.subAt_one (Str.ofString "\n\t\r ") c i).mpr (by rw [hl]; exact hi)⟩
  rw [hk] at h
  cases hb : isWs c with
  | true => exact h.mpr hb
  | false =>
    cases hx : (!(Builtin.Str.occurrences (Str.ofString "\n\t\r ") (S [c]) 0 (Str.ofString "\n\t\r ").length 1).isEmpty) with
    | false => rfl
    | true => rw [h.mp hx] at hb; cases hb
theorem ws_yes {c : Nat} (h : (Builtin.Str.occurrences (Str.ofString "\n\t\r ") (S [c]) 0 (Str.ofString "\n\t\r ").length 1).isEmpty = false) : isWs c = true := by
  rw [← ws_occ, h]; rfl
theorem ws_no {c : Nat} (h : (Builtin.Str.occurrences (Str.ofString "\n\t\r ") (S [c]) 0 (Str.ofString "\n\t\r ").length 1).isEmpty = true) : isWs c = false := by
  rw [← ws_occ, h]; rfl
theorem sqt : Str.ofString "\"" = S [34] := by decide +kernel
theorem sbs : Str.ofString "\\" = S [92] := by decide +kernel
theorem S1_beq {a b : Nat} (h : (S [a] == S [b]) = true) : a = b := by
  have := eq_of_beq h
  simpa [S] using this
theorem S1_bne {a b : Nat} (h : (S [a] == S [b]) = false) : a ≠ b := by
  rintro rfl
  simp at h
theorem tokA_ws {c : Nat} {r tok : List Nat} {kk : Nat} (hw : isWs c = true) (h : tokA (c :: r) = some (tok, kk)) : ∃ k, tokA r = some (tok, k) ∧ kk = k + 1 := by
  rw [tokA_c, if_pos hw] at h; exact bump_inv h
theorem tokA_q {r tok : List Nat} {kk : Nat} (h : tokA (34 :: r) = some (tok, kk)) : ∃ k, tokQ [] r = some (tok, k) ∧ kk = k + 1 := by
  rw [tokA_c, if_neg (by decide), if_pos rfl] at h; exact bump_inv h
theorem tokA_b {r tok : List Nat} {kk : Nat} (h : tokA (92 :: r) = some (tok, kk)) : ∃ d r' k, r = d :: r' ∧ tokW [d] r' = some (tok, k) ∧ kk = k + 2 := by
  rw [tokA_c, if_neg (by decide), if_neg (by decide), if_pos rfl] at h
  cases r with
  | nil => cases h
  | cons d r' => exact (bump_inv h).elim fun k e => ⟨d, r', k, rfl, e⟩
theorem tokA_o {c : Nat} {r tok : List Nat} {kk : Nat} (hw : isWs c = false) (h1 : c ≠ 34) (h2 : c ≠ 92) (h : tokA (c :: r) = some (tok, kk)) : ∃ k, tokW [c] r = some (tok, k) ∧ kk = k + 1 := by
  rw [tokA_c, if_neg (by rw [hw]; decide), if_neg h1, if_neg h2] at h; exact bump_inv h
theorem tokW_ws {c : Nat} {acc r tok : List Nat} {kk : Nat} (hw : isWs c = true) (h : tokW acc (c :: r) = some (tok, kk)) : tok = acc ∧ kk = 1 := by
  unfold tokW at h
  rw [if_pos hw] at h
  cases h; exact ⟨rfl, rfl⟩
theorem tokW_b {acc r tok : List Nat} {kk : Nat} (h : tokW acc (92 :: r) = some (tok, kk)) : ∃ d r' k, r = d :: r' ∧ tokW (acc ++ [d]) r' = some (tok, k) ∧ kk = k + 2 := by
  unfold tokW at h
  rw [if_neg (by decide), if_pos rfl] at h
  cases r with
  | nil => cases h
  | cons d r' =>
    exact (bump_inv h).elim fun k e => ⟨d, r', k, rfl, e⟩
theorem tokW_o {c : Nat} {acc r tok : List Nat} {kk : Nat} (hw : isWs c = false) (h2 : c ≠ 92) (h : tokW acc (c :: r) = some (tok, kk)) : ∃ k, tokW (acc ++ [c]) r = some (tok, k) ∧ kk = k + 1 := by
  unfold tokW at h
  rw [if_neg (by rw [hw]; decide), if_neg h2] at h
  exact bump_inv h
theorem tokQ_q {acc r tok : List Nat} {kk : Nat} (h : tokQ acc (34 :: r) = some (tok, kk)) : tok = acc ∧ kk = 1 := by
  rw [tokQ_c] at h
  rw [if_pos rfl] at h
  cases h; exact ⟨rfl, rfl⟩
theorem tokQ_b {acc r tok : List Nat} {kk : Nat} (h : tokQ acc (92 :: r) = some (tok, kk)) : False := by
  rw [tokQ_c] at h
  rw [if_neg (by decide), if_pos rfl] at h
  cases h
theorem tokQ_o {c : Nat} {acc r tok : List Nat} {kk : Nat} (h1 : c ≠ 34) (h : tokQ acc (c :: r) = some (tok, kk)) : ∃ k, tokQ (acc ++ [c]) r = some (tok, k) ∧ kk = k + 1 := by
  rw [tokQ_c] at h
  rw [if_neg h1] at h
  split at h
  · cases h
  exact bump_inv h
theorem tokW_le {r acc tok : List Nat} {k : Nat} (h : tokW acc r = some (tok, k)) : k ≤ r.length := by
  suffices H : ∀ (n : Nat) (r acc tok : List Nat) (k : Nat), r.length ≤ n → tokW acc r = some (tok, k) → k ≤ r.length from H _ _ _ _ _ (Nat.le_refl _) h
  clear h
  intro n
  induction n with
  | zero =>
    intro r acc tok k hr h
    cases r with
    | nil => cases h
    | cons c r => exact absurd hr (Nat.not_succ_le_zero _)
  | succ n ih =>
    intro r acc tok k hr h
    cases r with
    | nil => cases h
    | cons c r =>
      by_cases hw : isWs c = true
      · exact (tokW_ws hw h).2 ▸ Nat.succ_le_succ (Nat.zero_le _)
      · by_cases h2 : c = 92
        · subst h2
          obtain ⟨d, r', k2, rfl, h3, rfl⟩ := tokW_b h
          exact Nat.succ_le_succ (Nat.succ_le_succ (ih _ _ _ _ (Nat.le_of_succ_le (Nat.le_of_succ_le_succ hr)) h3))
        · obtain ⟨k2, h3, rfl⟩ := tokW_o ((Bool.not_eq_true _).mp hw) h2 h
          exact Nat.succ_le_succ (ih _ _ _ _ (Nat.le_of_succ_le_succ hr) h3)
theorem tokQ_le {r tok : List Nat} : ∀ {acc : List Nat} {k : Nat}, tokQ acc r = some (tok, k) → k ≤ r.length := by
  induction r with
  | nil => intro acc k h; cases h
  | cons c r ih =>
    intro acc k h
    by_cases h2 : c = 34
    · subst h2
      exact (tokQ_q h).2 ▸ Nat.succ_le_succ (Nat.zero_le _)
    · obtain ⟨k2, h3, rfl⟩ := tokQ_o h2 h
      exact Nat.succ_le_succ (ih h3)
theorem tokA_le {r tok : List Nat} : ∀ {k : Nat}, tokA r = some (tok, k) → k ≤ r.length + 1 := by
  induction r with
  | nil => intro k h; cases h; exact Nat.le_refl _
  | cons c r ih =>
    intro k h
    by_cases hw : isWs c = true
    · obtain ⟨k2, h3, rfl⟩ := tokA_ws hw h
      exact Nat.succ_le_succ (ih h3)
    · have hw' : isWs c = false := (Bool.not_eq_true _).mp hw
      by_cases h1 : c = 34
      · subst h1
        obtain ⟨k2, h3, rfl⟩ := tokA_q h
        exact Nat.succ_le_succ (Nat.le_succ_of_le (tokQ_le h3))
      · by_cases h2 : c = 92
        · subst h2
          obtain ⟨d, r', k2, rfl, h3, rfl⟩ := tokA_b h
          exact Nat.succ_le_succ (Nat.succ_le_succ (Nat.le_succ_of_le (tokW_le h3)))
        · obtain ⟨k2, h3, rfl⟩ := tokA_o hw' h1 h2 h
          exact Nat.succ_le_succ (Nat.le_succ_of_le (tokW_le h3))
theorem qk1 {q kk k x : Nat} (h : q + kk = x) (e : kk = k + 1) : q + 1 + k = x := by
  rw [Nat.add_right_comm, Nat.add_assoc, ← e]; exact h
theorem qk2 {q kk k x : Nat} (h : q + kk = x) (e : kk = k + 2) : q + 1 + 1 + k = x := by
  rw [Nat.add_right_comm, Nat.add_assoc, Nat.add_right_comm, Nat.add_assoc]; rw [e] at h; exact h
theorem len_snoc {α : Type} {l : List α} {a : α} {q : Nat} (h : l.length ≤ q) : (l ++ [a]).length ≤ q + 1 := by rw [List.length_append]; exact Nat.succ_le_succ h
end Mine.Internal
end PartTK
section PartEL
open PySem PySem.Calls PySem.Spec PySem.W PyProof.Rows PyProof.Rows.LCg
set_option maxHeartbeats 2000000
namespace Mine.Internal
section
variable {prog : Program} {w : World} {A : Around} {env : Env} {E : Value → Shared → Prop} {h₀ : Heap} {L : Nat} {m : Str → Option Value} {h2 : Heap} {g : Array GenState} {d : Drawn} {t2 : Nat} {o : OsState}
theorem forEnd_mk {I : Nat} {oI : Obj} {J : (Str → Option Value) → List (Addr × Obj) → Prop} {Q : Flow → Shared → Prop} {h' : Heap} {tk' : Nat} {m' : Str → Option Value} {nw : List (Addr × Obj)}
    (F : Fr h₀ L h' m') (N : News h₀ L h' ((I, oI) :: nw)) (off : ∀ p ∈ nw, p.1 ≠ I) (hJ : J m' nw) : ForEnd (fun x => g = x) h₀ L I oI J (Shared.mk h2 g d t2 o) Q .next (Shared.mk h' g d tk' o) :=
  fun _ zk => zk h' tk' g m' nw rfl rfl F N off hJ
theorem forEnd_mkG {GB : Array GenState → Prop} {gg : Array GenState} {I : Nat} {oI : Obj} {J : (Str → Option Value) → List (Addr × Obj) → Prop} {Q : Flow → Shared → Prop} {h' : Heap} {tk' : Nat} {m' : Str → Option Value} {nw : List (Addr × Obj)}
    (hg : GB gg) (F : Fr h₀ L h' m') (N : News h₀ L h' ((I, oI) :: nw)) (off : ∀ p ∈ nw, p.1 ≠ I) (hJ : J m' nw) : ForEnd GB h₀ L I oI J (Shared.mk h2 g d t2 o) Q .next (Shared.mk h' gg d tk' o) :=
  fun _ zk => zk h' tk' gg m' nw rfl hg F N off hJ
theorem whlEnd_mk {J : Nat → (Str → Option Value) → List (Addr × Obj) → Prop} {Q : Flow → Shared → Prop} {h' : Heap} {tk' n n' : Nat} {m' : Str → Option Value} {nw : List (Addr × Obj)}
    (F : Fr h₀ L h' m') (N : News h₀ L h' nw) (hn : n' < n) (hJ : J n' m' nw) : WhlEnd (fun x => g = x) h₀ L (Shared.mk h2 g d t2 o) J Q n .next (Shared.mk h' g d tk' o) :=
  fun _ zk => zk h' tk' g m' nw n' rfl rfl F N hn hJ
theorem turnEnd_mk {I : Nat} {oI : Obj} {C D : Nat} {ys : List Value} {J : List Value → List (Addr × Obj) → Prop} {r : Option Value} {h' : Heap} {tk' : Nat} {oC : Obj} {mC : Str → Option Value} {nw : List (Addr × Obj)}
    (F : Fr h₀ L h' m) (ho : NsObj oC mC) (N : News h₀ L h' ((I, oI) :: (C, oC) :: (D, lst ys) :: nw)) (off : Off3 I C D nw) (hJ : J (ys ++ r.toList) nw) :
    TurnEnd (fun x => g = x) h₀ L m (Shared.mk h2 g d t2 o) I oI C D ys J r (Shared.mk h' g d tk' o) := fun _ zk => zk h' tk' g oC mC nw rfl rfl F ho N off hJ
theorem turnEnd_mkG {GB : Array GenState → Prop} {gg : Array GenState} {I : Nat} {oI : Obj} {C D : Nat} {ys : List Value} {J : List Value → List (Addr × Obj) → Prop} {r : Option Value} {h' : Heap} {tk' : Nat} {oC : Obj} {mC : Str → Option Value} {nw : List (Addr × Obj)}
    (hg : GB gg) (F : Fr h₀ L h' m) (ho : NsObj oC mC) (N : News h₀ L h' ((I, oI) :: (C, oC) :: (D, lst ys) :: nw)) (off : Off3 I C D nw) (hJ : J (ys ++ r.toList) nw) :
    TurnEnd GB h₀ L m (Shared.mk h2 g d t2 o) I oI C D ys J r (Shared.mk h' gg d tk' o) := fun _ zk => zk h' tk' gg oC mC nw rfl hg F ho N off hJ
theorem forAt_S {target : Expr} {body : List Stmt} {Q : Flow → Shared → Prop} {I : Nat} {fp : List Nat} {n : Nat} {P : Nat → Value → Prop} {St : Nat → Heap → Prop} {news : List (Addr × Obj)}
    (J : Nat → (Str → Option Value) → List (Addr × Obj) → Prop) (K : IterOk prog w A h₀ env.locals m news (Shared.mk h2 g d t2 o) I fp n P St) (hS : ∀ m', Stable h₀ env.locals I St (fun i nw => J i m' nw)) (hJ : J 0 m news)
    (turn : ∀ i v m' nw oI h tk, i < n → P i v → J i m' nw → Fr h₀ env.locals h m' → News h₀ env.locals h ((I, oI) :: nw) → (∀ p ∈ nw, p.1 ≠ I) → St (i + 1) h →
      wpAny (model prog w) A (letOwnedTupleGo target (.ref I) v) (fun _ s₃ => wpAny (model prog w) A (assign target env v) (fun _ s₄ => wpAny (model prog w) A (execs body env)
        (ForEnd (fun x => g = x) h₀ env.locals I oI (J (i + 1)) (Shared.mk h2 g d t2 o) Q) E s₄) E s₃) E (Shared.mk h g d tk o))
    (fin : ∀ h tk m' nw, Fr h₀ env.locals h m' → News h₀ env.locals h nw → J n m' nw → Q .next (Shared.mk h g d tk o)) :
    ForAt prog w A h₀ env target body (fun x => g = x) Q E (.ref I) (Shared.mk h2 g d t2 o) :=
  forAt_of J rfl K hS hJ (fun i v m' nw oI h tk gg hg => by subst hg; exact turn i v m' nw oI h tk) (fun h tk gg m' nw hg => by subst hg; exact fin h tk m' nw)
theorem compAt_S {target elt : Expr} {ifs : List Expr} {scope : Scope} {cl : List (Str × Addr)} {FQ : Shared → Nat → Heap → Nat → Prop} {I : Nat} {fp : List Nat} {n : Nat} {P : Nat → Value → Prop} {St : Nat → Heap → Prop} {news : List (Addr × Obj)}
    (J : Nat → List Value → List (Addr × Obj) → Prop) (K : IterOk prog w A h₀ L m news (Shared.mk h2 g d t2 o) I fp n P St) (hsz : n ≤ sizeLine) (hS : ∀ ys, Stable h₀ L I St (fun i nw => J i ys nw)) (hJ : J 0 [] news)
    (turn : ∀ i v ys nw oI (C : Nat) oC (D : Nat) mC h tk (E' : Value → Shared → Prop), i < n → P i v → J i ys nw → NsObj oC mC → Fr h₀ L h m → News h₀ L h ((I, oI) :: (C, oC) :: (D, lst ys) :: nw) → Off3 I C D nw → (I ≠ C ∧ I ≠ D ∧ C ≠ D) → St (i + 1) h →
      TurnWp prog w A target ifs elt (compEnvC scope cl C env) (.ref I) v (TurnEnd (fun x => g = x) h₀ L m (Shared.mk h2 g d t2 o) I oI C D ys (J (i + 1))) E' (Shared.mk h g d tk o))
    (fin : ∀ (D C : Nat) h tk m' ys nw, Fr h₀ L h m → News h₀ L h ((D, lst ys) :: nw) → Off1 D nw → h.Ns C m' → h₀.get? C = none → h₀.get? D = none → C ≠ L → D ≠ L → C ≠ D → (∀ p ∈ nw, p.1 ≠ C) → J n ys nw → FQ (Shared.mk h g d tk o) D h C) :
    CompAt prog w A h₀ L m env target ifs elt scope cl (fun x => g = x) FQ (.ref I) (Shared.mk h2 g d t2 o) :=
  compAt_of J rfl K hsz hS hJ (fun i v ys nw oI C oC D mC h tk gg E' hg => by subst hg; exact turn i v ys nw oI C oC D mC h tk E') (fun D C h tk gg m' ys nw hg => by subst hg; exact fin D C h tk m' ys nw)
theorem while_S {test : Expr} {body : List Stmt} {pos : Pos} {Q : Flow → Shared → Prop} {news : List (Addr × Obj)} (J : Nat → (Str → Option Value) → List (Addr × Obj) → Prop) (n₀ : Nat)
    (F : Fr h₀ L h2 m) (N : News h₀ L h2 news) (hJ : J n₀ m news)
    (turn : ∀ n m₁ nw h₁ tk₁, J n m₁ nw → Fr h₀ L h₁ m₁ → News h₀ L h₁ nw →
      wpAny (model prog w) A (isTrue test env (eval test env)) (fun b s₂ =>
        if b = true then wpAny (model prog w) A (execs body env) (WhlEnd (fun x => g = x) h₀ L (Shared.mk h2 g d t2 o) J Q n) E s₂ else Q .next s₂) E (Shared.mk h₁ g d tk₁ o))
    (hE : PassesOwn (model prog w) A env E := by passes_own) :
    wpAny (model prog w) A (exec (.While test body [] pos) env) Q E (Shared.mk h2 g d t2 o) :=
  my_While (s := Shared.mk h2 g d t2 o) (fun x => g = x) J n₀ rfl F N hJ (fun n m₁ nw h₁ tk₁ gg hg F N hJ => by subst hg; exact turn n m₁ nw h₁ tk₁ hJ F N) hE
noncomputable def CiJ (J : Nat → Heap → Prop) (g : Array GenState) (d : Drawn) (o : OsState) (n : Nat) (s : Shared) : Prop := ∃ h t, s = Shared.mk h g d t o ∧ J n h
theorem cistep_S {J : Nat → Heap → Prop} {n k t : Nat} {h : Heap} (hk : k < n) (hj : J k h) : CiStep (CiJ J g d o) n (Shared.mk h g d t o) := ⟨k, hk, h, t, rfl, hj⟩
theorem ciIn_S {J : Nat → Heap → Prop} {I bm : Nat} {tS : Tok} {n t : Nat} {h : Heap} (hc : CiAt h I bm tS) (hj : J n h) : CiIn (CiJ J g d o) I bm tS (.ref I) (Shared.mk h g d t o) := ⟨rfl, hc, n, h, t, rfl, hj⟩
theorem ci_S {x : Str} {px : Pos} {iter : Expr} {body : List Stmt} {pos : Pos} {Q : Flow → Shared → Prop} {I bm LX : Nat} {tS : Tok} (hh : A.handled = none) (J : Nat → Heap → Prop)
    (h : wpAny (model prog w) A (eval iter env) (CiIn (CiJ J g d o) I bm tS) E (Shared.mk h2 g d t2 o))
    (turn : ∀ n h t, J n h → CiAt h I bm tS ∧ BmAt h bm LX ∧ codeAny (model prog w) A.in1 (.call (.ref 66) ⟨[.ref LX], []⟩) (CiTurn prog w A env (.Name x px) body E (CiJ J g d o) Q I bm LX tS n) (Shared.mk h g d t o))
    (hs : ∀ x, foldedSetIterable iter env x = pure x := by intro _; rfl)
    (hE : PassesOwn (model prog w) A env E := by passes_own) :
    wpAny (model prog w) A (exec (.For (.Name x px) iter body [] pos) env) Q E (Shared.mk h2 g d t2 o) :=
  ci_For hh (CiJ J g d o) h (fun n s hj => by obtain ⟨h, t, rfl, hj⟩ := hj; exact turn n h t hj) hs hE
noncomputable def JoinAt (R : Heap → Prop) (g : Array GenState) (d : Drawn) (o : OsState) (f : Flow) (s : Shared) : Prop := f = .next ∧ ∃ h t, s = Shared.mk h g d t o ∧ R h
theorem join_mk {R : Heap → Prop} {h : Heap} {t : Nat} (hr : R h) : JoinAt R g d o .next (Shared.mk h g d t o) := ⟨rfl, h, t, rfl, hr⟩
theorem execs_join {st : Stmt} {rest : List Stmt} {Q : Flow → Shared → Prop} (R : Heap → Prop) (h1 : wpAny (model prog w) A (exec st env) (JoinAt R g d o) E (Shared.mk h2 g d t2 o))
    (hr : ∀ h t, R h → wpAny (model prog w) A (execs rest env) Q E (Shared.mk h g d t o)) : wpAny (model prog w) A (execs (st :: rest) env) Q E (Shared.mk h2 g d t2 o) := by
  refine wpAny_execs_cons (wpAny_mono h1 (fun f s₁ hj => ?_) fun _ _ e => e)
  obtain ⟨rfl, h, t, rfl, hR⟩ := hj
  exact hr h t hR
end
end Mine.Internal
end PartEL
section PartPO
open PySem PySem.W PyProof.Rows PyProof.Rows.LCg
set_option maxHeartbeats 2000000
namespace Mine.Internal
section
variable {prog : Program} {w : World} {A : Around} {E : Value → Shared → Prop} {s : Shared} {h₀ : Heap} {L : Nat} {m : Str → Option Value} {news : List (Addr × Obj)}
theorem pop0 {D : Nat} {vs : List Value} {e : Nat} {y : Value} {u : Tok} {news' : List (Addr × Obj)} {Q : Value → Shared → Prop} (F : Fr h₀ L s.heap m) (N : News h₀ L s.heap news)
    (U : Upd D (W.listOf (y :: vs).toArray e) (W.listOf vs.toArray (e + 1)) news news') (hz : vs.length ≤ 10000) (h : ∀ h', Fr h₀ L h' m → News h₀ L h' news' → Q y { s with heap := h' }) :
    wpAny (model prog w) A (call (.builtin "list.pop") [.ref D, .int 0 u]) Q E s :=
  kl_popAt (k := 0) (p := []) (q := vs) F N (by decide) (by simp [seqIndex?]) (by simp [kl_cut]) U (by simp [sizeLine_eq]; (first | decide | lia | omega)) h
theorem truthy_cons {t : Nat} {v : Value} {vs : List Value} {e : Nat} {Q : Bool → Shared → Prop} (N : News h₀ L s.heap news) (hm : (t, W.listOf (v :: vs).toArray e) ∈ news) (hz : vs.length ≤ 10000) (h : Q true { s with toks := s.toks + 1 + 1 }) :
    wpAny (model prog w) A (truthy (.ref t)) Q E s :=
  wpAny_truthy_list (items := (v :: vs).toArray) ⟨_, (N _ hm).1, rfl, _, rfl⟩ (by simp [sizeLine_eq]; (first | decide | lia | omega)) (by simpa using h)
end
end Mine.Internal
end PartPO
section PartGP
open PySem PySem.W PyProof.Rows
namespace Mine.Internal
noncomputable def letters0 : Nat → List Nat := fun n => if n = 0 then [] else letters n
noncomputable def okW (w : List Nat) : Bool := w.all (fun c => 65 ≤ c && c ≤ 80) && decide (1 ≤ w.length ∧ w.length ≤ 40)
noncomputable def growO : Nat → List (List Nat) → List (List Nat) → List (List Nat) → Option (List (List Nat) × List (List Nat))
  | 0, _, _, _ => none
  | f + 1, names, inside, push =>
    if names.length < inside.length then
      match push with
      | [] => none
      | w :: rest =>
        if okW w ∧ valL w < 2 ^ 60 ∧ (placesOf (valL w)).length ≤ 20 ∧ (∀ x ∈ placesOf (valL w), x ≤ 100) ∧ inside.length ≤ 100 ∧ rest.length ≤ 100 ∧ inside[names.length]? = some [] then
          growO f (names ++ [w]) (inside.set names.length (List.range' inside.length (placesOf (valL w)).length) ++ List.replicate (placesOf (valL w)).length []) (rest ++ (placesOf (valL w)).map letters0)
        else none
    else if push = [] then some (names, inside) else none
theorem growO_c {f : Nat} {names inside push : List (List Nat)} : growO (f + 1) names inside push = if names.length < inside.length then
      match push with
      | [] => none
      | w :: rest =>
        if okW w ∧ valL w < 2 ^ 60 ∧ (placesOf (valL w)).length ≤ 20 ∧ (∀ x ∈ placesOf (valL w), x ≤ 100) ∧ inside.length ≤ 100 ∧ rest.length ≤ 100 ∧ inside[names.length]? = some [] then
          growO f (names ++ [w]) (inside.set names.length (List.range' inside.length (placesOf (valL w)).length) ++ List.replicate (placesOf (valL w)).length []) (rest ++ (placesOf (valL w)).map letters0)
        else none
    else if push = [] then some (names, inside) else none := rfl
theorem grow_go {f : Nat} {names inside push : List (List Nat)} {r : List (List Nat) × List (List Nat)} (h : growO (f + 1) names inside push = some r) (hl : names.length < inside.length) :
    ∃ w rest, push = w :: rest ∧ okW w = true ∧ valL w < 2 ^ 60 ∧ (placesOf (valL w)).length ≤ 20 ∧ (∀ x ∈ placesOf (valL w), x ≤ 100) ∧ inside.length ≤ 100 ∧ rest.length ≤ 100 ∧ inside[names.length]? = some [] ∧
      growO f (names ++ [w]) (inside.set names.length (List.range' inside.length (placesOf (valL w)).length) ++ List.replicate (placesOf (valL w)).length []) (rest ++ (placesOf (valL w)).map letters0) = some r := by
  rw [growO_c] at h
  rw [if_pos hl] at h
  cases push with
  | nil => cases h
  | cons w rest =>
    dsimp only at h
    split at h
    · rename_i hc
      show (let zG : Prop := _; zG)
      intro zG
      obtain ⟨h1, h2, h3, h4, h5, h6, h7⟩ := hc
      (try k_unmd); k_unfold
      exact ⟨w, rest, rfl, h1, h2, h3, h4, h5, h6, h7, h⟩
    · cases h
theorem grow_stop {f : Nat} {names inside push : List (List Nat)} {r : List (List Nat) × List (List Nat)} (h : growO (f + 1) names inside push = some r) (hl : ¬ names.length < inside.length) : push = [] ∧ r = (names, inside) := by
  rw [growO_c] at h
  rw [if_neg hl] at h
  split at h
  · rename_i hp
    exact ⟨hp, (Option.some.inj h).symm⟩
  · cases h
theorem okW_c {w : List Nat} (h : okW w = true) : ∀ c ∈ w, 65 ≤ c ∧ c ≤ 80 := by
  unfold okW at h
  simp only [Bool.and_eq_true, List.all_eq_true, decide_eq_true_eq] at h
  exact h.1
theorem okW_l {w : List Nat} (h : okW w = true) : 1 ≤ w.length ∧ w.length ≤ 40 := by
  unfold okW at h
  simp only [Bool.and_eq_true, List.all_eq_true, decide_eq_true_eq] at h
  exact h.2
noncomputable def Rising : Nat → List Value → Prop
  | _, [] => True
  | lo, v :: vs => ∃ a : Nat, v = .ref a ∧ lo < a ∧ Rising a vs
theorem Rising.gt {vs : List Value} {a : Nat} : ∀ {lo i : Nat}, Rising lo vs → vs[i]? = some (.ref a) → lo < a := by
  induction vs with
  | nil => intro lo i _ e; cases e
  | cons v vs ih =>
    intro lo i h e
    obtain ⟨b, h, hl, hr⟩ := h
    cases i with
    | zero => cases h.symm.trans (Option.some.inj e); exact hl
    | succ i => exact Nat.lt_trans hl (ih (i := i) hr e)
theorem Rising.snoc {vs : List Value} {b : Nat} : ∀ {lo : Nat}, Rising lo vs → lo < b → (∀ a : Nat, Value.ref a ∈ vs → a < b) → Rising lo (vs ++ [.ref b]) := by
  induction vs with
  | nil => intro lo _ hl _; exact ⟨b, rfl, hl, trivial⟩
  | cons v vs ih =>
    intro lo h hl ha
    obtain ⟨a, rfl, h1, hr⟩ := h
    exact ⟨a, rfl, h1, ih hr (ha a (.head _)) fun c hc => ha c (.tail _ hc)⟩
theorem InsAt.app {news : List (Addr × Obj)} {vs us : List Value} {xs ys : List (List Nat)} (h : InsAt news vs xs) (k : InsAt news us ys) : InsAt news (vs ++ us) (xs ++ ys) := A2.app h k
theorem InsAt.off {news news' : List (Addr × Obj)} {a : Nat} (hs : ∀ p ∈ news, p.1 ≠ a → p ∈ news') {vs : List Value} {xs : List (List Nat)} : ∀ {lo : Nat}, a ≤ lo → Rising lo vs → InsAt news vs xs → InsAt news' vs xs := by
  intro lo ha hr h
  revert hr ha lo
  refine A2.ind (M := fun vs xs => ∀ {lo : Nat}, a ≤ lo → Rising lo vs → InsAt news' vs xs) (fun _ _ => trivial) ?_ h
  intro v p vs ps hv _ ih lo ha hr
  show (let zG : Prop := _; zG)
  intro zG
  obtain ⟨b, rfl, hl, hr⟩ := hr
  obtain ⟨c, e, ws, h1, h2, h3⟩ := hv
  (try k_unmd); k_unfold
  cases h1
  exact ⟨⟨_, e, ws, rfl, hs _ h2 (Nat.ne_of_gt (Nat.lt_of_le_of_lt ha hl)), h3⟩, ih (Nat.le_of_lt (Nat.lt_of_le_of_lt ha hl)) hr⟩
theorem InsAt.set {news news' : List (Addr × Obj)} {a e' : Nat} {ws' : List Value} {ds : List Nat} (hs : ∀ p ∈ news, p.1 ≠ a → p ∈ news') (hm : (a, W.listOf ws'.toArray e') ∈ news') (hi : IntsAre ws' (NI ds))
    {lo : Nat} {vs : List Value} {xs : List (List Nat)} {n : Nat} (hr : Rising lo vs) (h : InsAt news vs xs) (e : vs[n]? = some (.ref a)) : InsAt news' vs (xs.set n ds) := by
  revert hr e lo n
  refine A2.ind (M := fun vs xs => ∀ {lo n : Nat}, Rising lo vs → vs[n]? = some (.ref a) → InsAt news' vs (xs.set n ds)) (fun _ e => nomatch e) ?_ h
  intro v p vs ps hv g ih lo n hr e
  obtain ⟨b, rfl, hl, hr⟩ := hr
  cases n with
  | zero =>
    cases e
    exact ⟨⟨a, e', ws', rfl, hm, hi⟩, InsAt.off hs (Nat.le_refl _) hr g⟩
  | succ n =>
    obtain ⟨c, e2, ws, h1, h2, h3⟩ := hv
    cases h1
    exact ⟨⟨_, e2, ws, rfl, hs _ h2 (Nat.ne_of_lt (Rising.gt (i := n) hr e)), h3⟩, ih (n := n) hr e⟩
theorem InsAt.lt {news : List (Addr × Obj)} {b : Nat} (hb : ∀ p ∈ news, p.1 < b) {vs : List Value} {xs : List (List Nat)} (h : InsAt news vs xs) : ∀ a : Nat, Value.ref a ∈ vs → a < b := by
  refine A2.ind (M := fun vs xs => ∀ a : Nat, Value.ref a ∈ vs → a < b) (fun _ h => nomatch h) ?_ h
  intro v p vs ps hv _ ih a h
  obtain ⟨c, e, ws, h1, h2, h3⟩ := hv
  cases h with
  | head => cases h1; exact hb _ h2
  | tail _ h => exact ih a h
theorem nil_of_ints {ws : List Value} (h : IntsAre ws (NI [])) : ws = [] := by
  have := h.length
  simpa [NI] using this
theorem range'_snoc (s n : Nat) : List.range' s (n + 1) = List.range' s n ++ [s + n] := by
  rw [List.range'_concat]; simp
theorem grow_len : ∀ {f : Nat} {names inside push : List (List Nat)} {nf inf : List (List Nat)}, growO f names inside push = some (nf, inf) → names.length ≤ nf.length ∧ inside.length ≤ inf.length := by
  intro f
  induction f with
  | zero => intro names inside push nf inf h; cases h
  | succ f ih =>
    intro names inside push nf inf h
    by_cases hl : names.length < inside.length
    · obtain ⟨w, rest, -, -, -, -, -, -, -, -, h2⟩ := grow_go h hl
      have := ih h2
      simp only [List.length_append, List.length_cons, List.length_nil, List.length_set, List.length_replicate] at this
      (first | decide | lia | omega)
    · obtain ⟨-, h2⟩ := grow_stop h hl
      cases h2
      exact ⟨Nat.le_refl _, Nat.le_refl _⟩
theorem strs_lib : ∀ {vs : List Value} {xs : List (List Nat)}, Mine.Internal.SgsAre vs xs → PyProof.Rows.StrsAre vs (xs.map S)
  | [], [], _ => .nil
  | _ :: _, x :: xs, ⟨⟨t, h⟩, g⟩ => by
    subst h
    exact .cons _ _ (strs_lib g)
theorem TabOk.filt3 {pos : Pos} {qual : Str} {ps : Array Value} {h₀ h : Heap} {L : Addr} {news : List (Addr × Obj)} {a b c : Nat} {oa ob oc : Obj} (H : TabOk pos qual ps news) (N : News h₀ L h news) (ha : h.get? a = some oa) (hb : h.get? b = some ob) (hc : h.get? c = some oc)
    (da : ∀ vs, oa.data ≠ .fields vs) (db : ∀ vs, ob.data ≠ .fields vs) (dc : ∀ vs, oc.data ≠ .fields vs) :
    TabOk pos qual ps (news.filter fun q => q.1 != a && q.1 != b && q.1 != c) := by
  rcases H with H | ⟨x, ox, vs, t, h1, h2, h3, h4⟩
  · exact .inl H
  · refine .inr ⟨x, ox, vs, t, h1, List.mem_filter.mpr ⟨h2, ?_⟩, h3, h4⟩
    have hx := (N _ h2).1
    have n1 : x ≠ a := by
      rintro rfl
      obtain rfl := Option.some.inj (hx.symm.trans ha)
      exact da vs h3
    have n2 : x ≠ b := by
      rintro rfl
      obtain rfl := Option.some.inj (hx.symm.trans hb)
      exact db vs h3
    have n3 : x ≠ c := by
      rintro rfl
      obtain rfl := Option.some.inj (hx.symm.trans hc)
      exact dc vs h3
    simp [n1, n2, n3]
end Mine.Internal
end PartGP
section PartBA
open PySem PySem.Calls PySem.Spec PySem.W PyProof.Rows PyProof.Rows.LCg
set_option maxHeartbeats 2000000
namespace Mine.Internal
theorem ba_lookup : typeLookup (.type "list") "append" = pure (some (.builtin "list.append")) := by rw [typeLookup_type, builtinLookup_eq_fast]; kernel_rfl
theorem ba_type : typeOf (.builtin "list.append") = pure (.type "method_descriptor") := by show builtinType _ = _; rw [builtinType_eq_fast]; kernel_rfl
theorem ba_get : typeLookup (.type "method_descriptor") "__get__" = pure (some (.builtin "method_descriptor.__get__")) := by rw [typeLookup_type, builtinLookup_eq_fast]; kernel_rfl
theorem ba_slot : Slot "method_descriptor" "__get__" "method_descriptor.__get__" :=
  .of (owner := "method_descriptor") (n := "__get__") (by rw [typeLookup_type, builtinLookup_eq_fast]; kernel_rfl) (by decide +kernel) (by decide +kernel) (by decide +kernel)
    (by first | exact .inl (by decide +kernel) | exact .inr (by decide +kernel)) (by rw [isSubtype_type]; kernel_rfl)
theorem ba_entry : entryFor table "method_descriptor.__get__" = some Builtin.«method_descriptor.__get__» := entryFor_of_tree (by kernel_rfl)
theorem ba_args (a b c : Value) : argsOk "method_descriptor.__get__" ⟨[a, b, c], []⟩ := by unfold argsOk; kernel_rfl
theorem ba_told : Manifest.toldItsClass.contains "list.append" = false := by decide +kernel
theorem ba_set : typeLookup (.type "method_descriptor") "__set__" = pure none := by rw [typeLookup_type, builtinLookup_eq_fast]; kernel_rfl
theorem ba_del : typeLookup (.type "method_descriptor") "__delete__" = pure none := by rw [typeLookup_type, builtinLookup_eq_fast]; kernel_rfl
section
variable {prog : Program} {w : World} {A : Around} {E : Value → Shared → Prop} {s : Shared}
theorem ba_run {a e : Nat} {vs : List Value} {u : Tok} {Q : Fin → Shared → Prop} (ho : s.heap.get? a = some (W.listOf vs.toArray e)) (h : Q (.done (.ret (.ref s.heap.objs.size))) { s with heap := s.heap.push (bdApp a) }) :
    wpAny (model prog w) A (Builtin.«object.__getattribute__» ⟨[.ref a, .str (Str.ofString "append") u], []⟩) Q E s := by
  have hT : s.TypeIs (.ref a) "list" := ⟨_, ho, rfl⟩
  unfold Builtin.«object.__getattribute__»
  refine wpAny_bind (wpAny_of_eq (a := (Value.ref a, [Value.str (Str.ofString "append") u])) (by first | rfl | kernel_rfl) ?_)
  dsimp only
  refine wpAny_bind (wpAny_of_eq (a := Str.ofString "append") (by first | rfl | kernel_rfl) ?_)
  refine wpAny_bind (wpAny_typeOf hT ?_)
  unfold Builtin.ObjectAttr.find
  refine wpAny_bind (wpAny_bind (wpAny_of_eq ba_lookup ?_))
  unfold Builtin.ObjectAttr.getOf
  refine wpAny_bind ?_
  unfold specialOf
  refine wpAny_bind (wpAny_of_eq ba_type (wpAny_of_eq ba_get ?_))
  unfold Builtin.ObjectAttr.dataDescriptor? Builtin.ObjectAttr.takesStores specialOf
  dsimp only
  refine wpAny_bind (wpAny_bind (wpAny_bind (wpAny_bind (wpAny_of_eq ba_type (wpAny_of_eq ba_set ?_)))))
  refine if_no (by decide) ?_
  refine wpAny_bind (wpAny_bind (wpAny_of_eq ba_type (wpAny_of_eq ba_del (wpAny_pure ?_))))
  refine if_no (by decide) ?_
  refine wpAny_pure ?_
  dsimp only
  unfold Builtin.ObjectAttr.ownThenClass Builtin.ObjectAttr.inOwnDict Builtin.ObjectAttr.ownDict
  dsimp only
  refine wpAny_bind (wpAny_bind (wpAny_bind ?_))
  unfold loadHead
  refine wpAny_loadPart ho ?_
  show wpAny _ _ (instanceDict a false) _ _ _
  unfold instanceDict
  refine wpAny_bind (wpAny_loadPart ho ?_)
  show wpAny _ _ (pure (none : Option Addr)) _ _ _
  refine wpAny_pure ?_
  show wpAny _ _ (pure (none : Option Value)) _ _ _
  refine wpAny_pure ?_
  dsimp only
  refine wpAny_bind ?_
  unfold Builtin.ObjectAttr.copiedAttributeGuard
  dsimp only
  refine if_no (by decide +kernel) ?_
  refine wpAny_pure ?_
  unfold Builtin.ObjectAttr.byTheClass
  refine wpAny_bind (wpAny_rule (wpAny_pure ?_))
  dsimp only
  unfold Builtin.ObjectAttr.bindTo
  dsimp only
  refine wpAny_bind (wpAny_holding (wpAny_call_entry ba_slot ba_type ba_entry ?_ (ba_args _ _ _)))
  unfold Builtin.«method_descriptor.__get__»
  refine wpAny_bind (wpAny_of_eq (a := (Value.builtin "list.append", some (Value.ref a), some (Value.type "list"))) (by first | rfl | kernel_rfl) ?_)
  dsimp only
  refine if_no (by rw [ba_told]; decide) ?_
  show wpAny _ _ ((_ : Sem Unit) >>= fun _ => newFields "builtin_function_or_method" [Value.builtin "list.append", Value.ref a] >>= fun v => ret v) _ _ _
  refine wpAny_bind ?_
  show wpAny _ _ ((_ : Sem (Str × Value)) >>= _) _ _ _
  refine wpAny_bind (wpAny_of_eq (a := (Str.ofString "append", Value.type "list")) (by first | rfl | kernel_rfl) ?_)
  dsimp only
  refine wpAny_bind (wpAny_isInstance (b := true) hT (by rw [isSubtype_type]; kernel_rfl) ?_)
  refine if_no (by decide) ?_
  refine wpAny_pure ?_
  unfold newFields
  refine wpAny_bind (wpAny_newObj_type ?_)
  refine wpAny_pure ⟨_, rfl, ?_⟩
  exact wpAny_pure h
theorem attr_append {h₀ : Heap} {L : Nat} {m : Str → Option Value} {news : List (Addr × Obj)} {a e : Nat} {vs : List Value} {b : Bool} {Q : Value → Shared → Prop} (F : Fr h₀ L s.heap m) (N : News h₀ L s.heap news) (hm : (a, W.listOf vs.toArray e) ∈ news)
    (h : ∀ (wr : Nat) h' tk', Fr h₀ L h' m → News h₀ L h' ((wr, bdApp a) :: news) → (∀ p ∈ news, p.1 < wr) → Q (.ref wr) { s with heap := h', toks := tk' }) :
    wpAny (model prog w) A (getAttr (.ref a) (Str.ofString "append") b) Q E s := by
  have ho := (N _ hm).1
  have hT : ∀ tk, ({ s with toks := tk } : Shared).TypeIs (.ref a) "list" := fun _ => ⟨_, ho, rfl⟩
  unfold getAttr
  refine wpAny_bind (wpAny_mkText ?_)
  unfold getAttrBy
  refine wpAny_holding (wpAny_bind (wpAny_typeOf (hT _) ?_))
  refine wpAny_bind (wpAny_of_eq PySem.F.slot_list_getattribute.lookup ?_)
  dsimp only
  refine if_no (by decide) ?_
  unfold getAttrByItsOwn
  refine wpAny_bind (wpAny_of_eq (a := none) (by first | rfl | kernel_rfl) ?_)
  refine wpAny_bind (wpAny_attempt (wpAny_holding ?_))
  unfold callGetattribute
  refine if_no (by simp [onTheHeap]) ?_
  unfold boundAndCalled
  refine wpAny_bind (wpAny_of_eq (PySem.F.slot_list_getattribute.bind (.ref a)) ?_)
  dsimp only
  refine wpAny_call_entry PySem.F.slot_list_getattribute (hT _) am_entry_list_getattribute (ba_run ho ⟨_, rfl, ?_⟩) (PySem.F.args_list_getattribute_2 _ _)
  exact wpAny_pure (h _ _ _ (F.push _) (News.push F N _) fun p hp => Heap.lt_size (N p hp).1)
end
end Mine.Internal
end PartBA
section PartRP
open PySem PySem.W PyProof.Rows
namespace Mine.Internal
noncomputable def splitL (c : Nat) : List Nat → List (List Nat)
  | [] => [[]]
  | x :: r => if x = c then [] :: splitL c r else match splitL c r with
    | [] => [[x]]
    | p :: ps => (x :: p) :: ps
theorem splitL_n {c : Nat} : splitL c [] = [[]] := rfl
theorem splitL_c {c x : Nat} {r : List Nat} : splitL c (x :: r) = if x = c then [] :: splitL c r else match splitL c r with
    | [] => [[x]]
    | p :: ps => (x :: p) :: ps := rfl
theorem splitL_free {c : Nat} : ∀ {a : List Nat}, c ∉ a → splitL c a = [a]
  | [], _ => rfl
  | x :: a, h => by
    have h1 : x ≠ c := fun e => h (by rw [e]; exact .head _)
    have h2 := splitL_free (a := a) fun e => h (.tail _ e)
    rw [splitL_c]
    rw [if_neg h1, h2]
theorem splitL_app {c : Nat} {r : List Nat} : ∀ {a : List Nat}, c ∉ a → splitL c (a ++ c :: r) = a :: splitL c r
  | [], _ => by
    show splitL c (c :: r) = _
    conv => lhs; rw [splitL_c]
    rw [if_pos rfl]
  | x :: a, h => by
    have h1 : x ≠ c := fun e => h (by rw [e]; exact .head _)
    have h2 := splitL_app (r := r) (a := a) fun e => h (.tail _ e)
    show splitL c (x :: (a ++ c :: r)) = _
    conv => lhs; rw [splitL_c]
    rw [if_neg h1, h2]
theorem split_join {c : Nat} : ∀ {ps : List Str}, ps ≠ [] → (∀ p ∈ ps, c ∉ p.cps.toList) → splitL c (Str.join ⟨#[c]⟩ ps).cps.toList = ps.map fun p => p.cps.toList
  | [], h, _ => absurd rfl h
  | [p], _, h => by
    show splitL c p.cps.toList = _
    rw [splitL_free (h p (.head _))]; rfl
  | p :: q :: r, _, h => by
    have ih := split_join (c := c) (ps := q :: r) (by simp) fun x hx => h x (.tail _ hx)
    show splitL c (p ++ ⟨#[c]⟩ ++ Str.join ⟨#[c]⟩ (q :: r)).cps.toList = _
    have e : (p ++ (⟨#[c]⟩ : Str) ++ Str.join ⟨#[c]⟩ (q :: r)).cps.toList = p.cps.toList ++ c :: (Str.join ⟨#[c]⟩ (q :: r)).cps.toList := by
      show ((p.cps ++ #[c]) ++ (Str.join ⟨#[c]⟩ (q :: r)).cps).toList = _
      simp
    rw [e, splitL_app (h p (.head _)), ih]
    rfl
theorem txt_split (l : List Nat) (c : Nat) : Txt.split (S l) (S [c]) = (splitL c l).map S := by
  have h1 := StrLaws.join_split (S l) ⟨#[c]⟩
  have h2 := StrLaws.split_free (S l) c
  have hne : Txt.split (S l) ⟨#[c]⟩ ≠ [] := fun h => by rw [h] at h1; have := PyProof.Rows.split_pos (S l) ⟨#[c]⟩; rw [h] at this; simp at this
  have h3 := split_join hne h2
  rw [h1] at h3
  have h4 : (S l).cps.toList = l := by simp [S]
  rw [h4] at h3
  show Txt.split (S l) ⟨#[c]⟩ = _
  rw [h3, List.map_map]
  conv => lhs; rw [← List.map_id (Txt.split (S l) ⟨#[c]⟩)]
  refine List.map_congr_left fun p _ => ?_
  show p = S p.cps.toList
  simp [S]
noncomputable def prodO : Nat → List Nat → Option Nat
  | n, [] => some n
  | n, v :: r => if v = 0 ∨ v > 19 ∨ n > 2 ^ 60 then none else prodO (n * primesN.getD (v - 1) 1) r
theorem prodO_n {n : Nat} : prodO n [] = some n := rfl
theorem prodO_c {n v : Nat} {r : List Nat} : prodO n (v :: r) = if v = 0 ∨ v > 19 ∨ n > 2 ^ 60 then none else prodO (n * primesN.getD (v - 1) 1) r := rfl
noncomputable def sortedB : List Nat → Bool
  | [] => true
  | [_] => true
  | a :: b :: r => decide (a ≤ b) && sortedB (b :: r)
theorem sortedB_c {a b : Nat} {r : List Nat} : sortedB (a :: b :: r) = (decide (a ≤ b) && sortedB (b :: r)) := rfl
noncomputable def readPop (piece : List Nat) (x y : List Nat × List Nat) (rest : List (List Nat × List Nat)) : Option (List (List Nat × List Nat)) :=
  (prodO 1 x.2).bind fun number => if piece = 47 :: x.1 ∧ x.1 = letters number ++ [62] ∧ sortedB x.2 = true ∧ number < 2 ^ 60 ∧ x.2.length ≤ 50 ∧ y.2.length ≤ 50 ∧ piece.length ≤ 1000 ∧ rest.length ≤ 100 then some (rest.reverse ++ [(y.1, y.2 ++ [number])]) else none
noncomputable def readTop (piece : List Nat) : List (List Nat × List Nat) → Option (List (List Nat × List Nat))
  | x :: y :: rest => readPop piece x y rest
  | _ => none
noncomputable def readStep (st : List (List Nat × List Nat)) (piece : List Nat) : Option (List (List Nat × List Nat)) :=
  if piece.take 1 = [47] then readTop piece st.reverse
  else if st.length ≤ 100 ∧ piece.length ≤ 1000 then some (st ++ [(piece, [])]) else none
noncomputable def readL : List (List Nat × List Nat) → List (List Nat) → Option (List (List Nat × List Nat))
  | st, [] => some st
  | st, p :: r => (readStep st p).bind fun st' => readL st' r
theorem readL_n {st : List (List Nat × List Nat)} : readL st [] = some st := rfl
noncomputable def readO (page : List Nat) : Option (List (List Nat × List Nat)) := match splitL 60 page with
  | [] => none
  | p :: r => readL [(p, [])] r
theorem strs_mine : ∀ {vs : List Value} {xs : List (List Nat)}, PyProof.Rows.StrsAre vs (xs.map S) → Mine.Internal.SgsAre vs xs
  | _, [], h => by cases h; trivial
  | _, x :: xs, h => by
    cases h with
    | cons y t h => exact ⟨⟨t, rfl⟩, strs_mine h⟩
inductive StackAt (news : List (Addr × Obj)) : Nat → List Value → List (List Nat × List Nat) → Nat → Prop
  | nil {lo : Nat} : StackAt news lo [] [] lo
  | cons {lo n a hi e1 e2 : Nat} {t : Tok} {nm ns : List Nat} {ws vs : List Value} {st : List (List Nat × List Nat)} (h1 : lo < n) (h2 : n < a) (m1 : (a, W.listOf [.str (S nm) t, .ref n].toArray e1) ∈ news)
    (m2 : (n, W.listOf ws.toArray e2) ∈ news) (hw : IntsAre ws (NI ns)) (r : StackAt news a vs st hi) : StackAt news lo (.ref a :: vs) ((nm, ns) :: st) hi
theorem StackAt.nil_inv {news : List (Addr × Obj)} {vs : List Value} {lo hi : Nat} (h : StackAt news lo vs [] hi) : vs = [] ∧ lo = hi := by
  have key : ∀ st, StackAt news lo vs st hi → st = [] → vs = [] ∧ lo = hi := by
    intro st h e
    cases h with
    | nil => exact ⟨rfl, rfl⟩
    | cons _ _ _ _ _ _ => cases e
  exact key _ h rfl
theorem StackAt.inv {news : List (Addr × Obj)} {vs : List Value} {x : List Nat × List Nat} {st : List (List Nat × List Nat)} {lo hi : Nat} {zG : Prop} (h : StackAt news lo vs (x :: st) hi)
    (k : ∀ (n a e1 e2 : Nat) (t : Tok) (ws vs' : List Value), vs = .ref a :: vs' → lo < n → n < a → (a, W.listOf [.str (S x.1) t, .ref n].toArray e1) ∈ news → (n, W.listOf ws.toArray e2) ∈ news → IntsAre ws (NI x.2) → StackAt news a vs' st hi → zG) : zG := by
  have key : ∀ s, StackAt news lo vs s hi → s = x :: st → zG := by
    intro s h e
    cases h with
    | nil => cases e
    | cons h1 h2 m1 m2 hw r => cases e; exact k _ _ _ _ _ _ _ rfl h1 h2 m1 m2 hw r
  exact key _ h rfl
theorem StackAt.one {news : List (Addr × Obj)} {vs : List Value} {nm ns : List Nat} {lo hi : Nat} (h : StackAt news lo vs [(nm, ns)] hi) :
    ∃ (n e1 e2 : Nat) (t : Tok) (ws : List Value), vs = [.ref hi] ∧ lo < n ∧ n < hi ∧ (hi, W.listOf [.str (S nm) t, .ref n].toArray e1) ∈ news ∧ (n, W.listOf ws.toArray e2) ∈ news ∧ IntsAre ws (NI ns) :=
  h.inv fun n a e1 e2 t ws vs' e h1 h2 m1 m2 hw r => by
    obtain ⟨rfl, rfl⟩ := r.nil_inv
    exact ⟨n, e1, e2, t, ws, e, h1, h2, m1, m2, hw⟩
theorem StackAt.le {news : List (Addr × Obj)} {vs : List Value} {st : List (List Nat × List Nat)} {lo hi : Nat} (h : StackAt news lo vs st hi) : lo ≤ hi := by
  induction h with
  | nil => exact Nat.le_refl _
  | cons h1 h2 _ _ _ _ ih => exact Nat.le_trans (Nat.le_of_lt (Nat.lt_trans h1 h2)) ih
theorem StackAt.off {news news' : List (Addr × Obj)} {vs : List Value} {st : List (List Nat × List Nat)} {lo hi : Nat} (hs : ∀ p ∈ news, p.1 ≤ hi → p ∈ news') (h : StackAt news lo vs st hi) : StackAt news' lo vs st hi := by
  induction h with
  | nil => exact .nil
  | cons h1 h2 m1 m2 hw r ih => exact .cons h1 h2 (hs _ m1 r.le) (hs _ m2 (Nat.le_trans (Nat.le_of_lt h2) r.le)) hw (ih hs)
theorem StackAt.mono {news news' : List (Addr × Obj)} {vs : List Value} {st : List (List Nat × List Nat)} {lo hi : Nat} (hs : ∀ p ∈ news, p ∈ news') (h : StackAt news lo vs st hi) : StackAt news' lo vs st hi := h.off fun p hp _ => hs p hp
theorem StackAt.split {news : List (Addr × Obj)} {s1 s2 : List (List Nat × List Nat)} {vs : List Value} {lo hi : Nat} (h : StackAt news lo vs (s1 ++ s2) hi) : ∃ v1 v2 mid, vs = v1 ++ v2 ∧ StackAt news lo v1 s1 mid ∧ StackAt news mid v2 s2 hi := by
  induction s1 generalizing vs lo with
  | nil => exact ⟨[], vs, lo, rfl, .nil, h⟩
  | cons x s1 ih =>
    refine StackAt.inv h fun n a e1 e2 t ws vs' e h1 h2 m1 m2 hw r => ?_
    cases ih r with | intro v1 g => cases g with | intro v2 g => cases g with | intro mid g =>
      exact ⟨_ :: v1, v2, mid, e.trans (congrArg _ g.1), .cons h1 h2 m1 m2 hw g.2.1, g.2.2⟩
theorem StackAt.join {news : List (Addr × Obj)} {s1 s2 : List (List Nat × List Nat)} {v1 v2 : List Value} {lo mid hi : Nat} (h : StackAt news lo v1 s1 mid) (k : StackAt news mid v2 s2 hi) : StackAt news lo (v1 ++ v2) (s1 ++ s2) hi := by
  induction h with
  | nil => exact k
  | cons h1 h2 m1 m2 hw r ih => exact .cons h1 h2 m1 m2 hw (ih k)
theorem StackAt.top {news : List (Addr × Obj)} {vs : List Value} {st : List (List Nat × List Nat)} {lo hi : Nat} (h : StackAt news lo vs st hi) (hne : st ≠ []) : ∃ o, (hi, o) ∈ news := by
  induction h with
  | nil => exact absurd rfl hne
  | @cons lo n a hi e1 e2 t nm ns ws vs st h1 h2 m1 m2 hw r ih =>
    cases st with
    | nil => have e := r.nil_inv.2; exact ⟨_, e ▸ m1⟩
    | cons => exact ih (List.cons_ne_nil _ _)
theorem StackAt.length {news : List (Addr × Obj)} {vs : List Value} {st : List (List Nat × List Nat)} {lo hi : Nat} (h : StackAt news lo vs st hi) : vs.length = st.length := by
  induction h with
  | nil => rfl
  | cons _ _ _ _ _ _ ih => exact congrArg (· + 1) ih
theorem splitL_len (c : Nat) : ∀ l : List Nat, (splitL c l).length ≤ l.length + 1
  | [] => by simp [splitL_n]
  | x :: r => by
    have ih := splitL_len c r
    rw [splitL_c]
    split
    · simp; (first | decide | lia | omega)
    · split
      · simp
      · rename_i p ps e
        rw [e] at ih
        simp at ih ⊢
        (first | decide | lia | omega)
theorem readL_go {st r : List (List Nat × List Nat)} {p : List Nat} {ps : List (List Nat)} (h : readL st (p :: ps) = some r) : ∃ st', readStep st p = some st' ∧ readL st' ps = some r :=
  bind_inv (o := readStep st p) h fun st' e h => ⟨st', e, h⟩
theorem step_push {st st' : List (List Nat × List Nat)} {p : List Nat} (h : readStep st p = some st') (hp : ¬ p.take 1 = [47]) : st.length ≤ 100 ∧ p.length ≤ 1000 ∧ st' = st ++ [(p, [])] :=
  have h := if_inv' ((if_neg hp).symm.trans h)
  ⟨h.1.1, h.1.2, h.2.symm⟩
theorem step_pop {st st' : List (List Nat × List Nat)} {p : List Nat} (h : readStep st p = some st') (hp : p.take 1 = [47]) :
    ∃ name nums n2 ms rest number, st = rest ++ [(n2, ms)] ++ [(name, nums)] ∧ prodO 1 nums = some number ∧ p = 47 :: name ∧ name = letters number ++ [62] ∧ sortedB nums = true ∧ number < 2 ^ 60 ∧ nums.length ≤ 50 ∧ ms.length ≤ 50 ∧ p.length ≤ 1000 ∧ rest.length ≤ 100 ∧ st' = rest ++ [(n2, ms ++ [number])] := by
  have h := (if_pos hp).symm.trans h
  have e2 := List.reverse_reverse st
  revert h e2
  generalize st.reverse = l
  intro h e2
  cases l with
  | nil => cases h
  | cons x r =>
    cases r with
    | nil => cases h
    | cons y rest =>
      refine bind_inv (o := prodO 1 x.2) h fun number hn h => ?_
      have h := if_inv' h
      exact ⟨x.1, x.2, y.1, y.2, rest.reverse, number, e2.symm.trans (List.reverse_cons.trans (congrArg (· ++ [x]) List.reverse_cons)), hn, h.1.1, h.1.2.1, h.1.2.2.1, h.1.2.2.2.1, h.1.2.2.2.2.1, h.1.2.2.2.2.2.1, h.1.2.2.2.2.2.2.1, Nat.le_trans (Nat.le_of_eq List.length_reverse) h.1.2.2.2.2.2.2.2, h.2.symm⟩
theorem slice1' (l : List Nat) : Txt.slice (S l) none (some 1) = S (l.take 1) := by
  cases l with
  | nil => decide +kernel
  | cons c r => exact slice1 c r
theorem prodO_go {n v m : Nat} {r : List Nat} (h : prodO n (v :: r) = some m) : ∃ p, 1 ≤ v ∧ v ≤ 19 ∧ n ≤ 2 ^ 60 ∧ primesN[v - 1]? = some p ∧ prodO (n * p) r = some m := by
  rw [prodO_c] at h
  split at h
  · cases h
  · rename_i hc
    have h1 : 1 ≤ v ∧ v ≤ 19 ∧ n ≤ 2 ^ 60 := by (first | decide | lia | omega)
    have hl : v - 1 < primesN.length := by show v - 1 < 19; (first | decide | lia | omega)
    refine ⟨primesN[v - 1], h1.1, h1.2.1, h1.2.2, List.getElem?_eq_getElem hl, ?_⟩
    rw [List.getD_eq_getElem?_getD, List.getElem?_eq_getElem hl] at h
    exact h
theorem sortedB_pw : ∀ {l : List Nat}, sortedB l = true → (NI l).Pairwise (· ≤ ·)
  | [], _ => .nil
  | [a], _ => .cons (fun _ h => by cases h) .nil
  | a :: b :: r, h => by
    rw [sortedB_c] at h
    simp only [Bool.and_eq_true, decide_eq_true_eq] at h
    have ih := sortedB_pw (l := b :: r) h.2
    refine .cons (fun x hx => ?_) ih
    have hab : (a : Int) ≤ (b : Int) := by (first | decide | lia | omega)
    rcases List.mem_cons.mp hx with rfl | hx
    · exact hab
    · cases ih with
      | cons h1 _ => exact Int.le_trans hab (h1 x hx)
theorem sq_slash : Str.ofString "/" = S [47] := by decide +kernel
end Mine.Internal
end PartRP
section PartIX
open PySem PySem.W PyProof.Rows PyProof.Rows.LCg
set_option maxHeartbeats 2000000
namespace Mine.Internal
noncomputable def NoStr1 (o : Obj) : Prop := ∀ vs q t, o.data = .fields vs → vs[1]? ≠ some (.str q t)
theorem TabOk.filtP {pos : Pos} {qual : Str} {ps : Array Value} {news : List (Addr × Obj)} (H : TabOk pos qual ps news) (P : Addr × Obj → Bool) (hP : ∀ x ∈ news, P x = false → NoStr1 x.2) : TabOk pos qual ps (news.filter P) := by
  rcases H with H | ⟨x, ox, vs, t, h1, h2, h3, h4⟩
  · exact .inl H
  · refine .inr ⟨x, ox, vs, t, h1, List.mem_filter.mpr ⟨h2, ?_⟩, h3, h4⟩
    cases hb : P (x, ox) with
    | true => rfl
    | false => exact absurd h4 (hP _ h2 hb vs qual t h3)
theorem off3_of {I C D : Addr} : ∀ {l : List (Addr × Obj)}, (∀ p ∈ l, p.1 ≠ I ∧ p.1 ≠ C ∧ p.1 ≠ D) → Off3 I C D l
  | [], _ => trivial
  | p :: r, h => ⟨h p (.head _), off3_of fun q hq => h q (.tail _ hq)⟩
section
variable {prog : Program} {w : World} {A : Around} {E : Value → Shared → Prop} {s : Shared} {h₀ : Heap} {L : Nat} {m : Str → Option Value}
theorem iter_rangeX {r : Nat} {a : Int} {n : Nat} {t u v : Tok} {b : Int} {news : List (Addr × Obj)} {K : Value → Shared → Prop} (hh : A.handled = none) (hr : IsRange s.heap r a b 1 t u v) (hsm : Builtin.Range.small a b 1 = true) (hn : Builtin.Range.rangeSize a b 1 = ((n : Nat) : Int))
    (F : Fr h₀ L s.heap m) (N : News h₀ L s.heap news)
    (k : ∀ (I : Nat) h St, (∀ i h h', St i h → h.get? I = h'.get? I → St i h') → (∀ i h, St i h → ∃ o, h.get? I = some o ∧ NoStr1 o) → IterOk prog w A h₀ L m news { s with heap := h } I [I] n (fun i v => ∃ t, v = .int (a + (i : Int)) t) St → K (.ref I) { s with heap := h }) : wpAny (model prog w) A (pyIter (.ref r)) K E s := by
  have lo : ∀ b ∈ [s.heap.objs.size], b ≤ s.heap.objs.size := fun b hb => by rw [List.mem_singleton.mp hb]; exact Nat.le_refl _
  refine wpAny_pyIter_range hr hsm (k _ _ _ (fun i h h' st e => ?_) (fun i h st => ?_) (IterOk.of_push (range_walks hh a n) (fun i h st => ⟨_, st⟩) (by show IsRangeIter _ _ _ _ _; rw [hn]; simpa using Heap.get?_push_size _ rfl) lo F N))
  · have st' : h.get? s.heap.objs.size = some _ := st
    show h'.get? s.heap.objs.size = some _
    rw [← e, st']
  · have st' : h.get? s.heap.objs.size = some _ := st
    refine ⟨_, st', ?_⟩
    intro vs q t hd he
    injection hd with hd
    rw [← hd] at he
    simp [rawInt] at he
end
end Mine.Internal
end PartIX
section PartEQ
open PySem PySem.W PyProof.Rows PyProof.Rows.LCg PyProof.V PySem.Spec PySem.SeqAt PySem.Calls
set_option maxHeartbeats 2000000
namespace Mine.Internal
theorem count_S (l : List Nat) (c : Nat) : Txt.count (S l) (S [c]) = ((l.count c : Nat) : Int) := by
  have h : ∀ l : List Nat, cnt c l = ((l.count c : Nat) : Int) := fun l => by
    induction l with
    | nil => rfl
    | cons n r ih =>
      rw [cnt_cons, ih, List.count_cons]
      by_cases e : n = c <;> simp [e] <;> (first | decide | lia | omega)
  have := count_is (S l) c
  rw [show (S l).cps.toList = l from by simp [S]] at this
  show Txt.count (S l) ⟨#[c]⟩ = _
  rw [this]
  exact h l
theorem strOk_S (l : List Nat) (h : ∀ c ∈ l, c < 128) : PyData.strOk (S l) = true := by
  unfold PyData.strOk
  simp [S]
  intro c hc
  have := h c hc
  (first | decide | lia | omega)
theorem readsAll_strs {h : Heap} : ∀ {vs : List Value} {xs : List (List Nat)}, Mine.Internal.SgsAre vs xs → ReadsAll h vs (xs.map fun x => PyData.str (S x)) []
  | [], [], _ => .nil
  | _ :: _, x :: xs, ⟨⟨t, hv⟩, g⟩ => by
    subst hv
    have := ReadsAll.cons (Reads.str (h := h) (S x) t) (readsAll_strs (h := h) g)
    simpa using this
theorem reads_strs {h : Heap} {a : Addr} {vs : List Value} {xs : List (List Nat)} (hl : h.IsList a vs.toArray) (hi : Mine.Internal.SgsAre vs xs) : Reads h (.ref a) (.list (xs.map fun x => PyData.str (S x))) [a] := by
  show (let zG : Prop := _; zG)
  intro zG
  obtain ⟨o, ho, hc, n, hd⟩ := hl
  (try k_unmd); k_unfold
  exact Reads.list ho hc hd (by simpa using readsAll_strs hi)
theorem canLay_strs : ∀ xs : List (List Nat), (∀ x ∈ xs, PyData.strOk (S x) = true) → PyData.canLayAll0 (xs.map fun x => PyData.str (S x)) = true
  | [], _ => by simp [PyData.canLayAll0]
  | n :: r, h => by simp [PyData.canLayAll0, PyData.canLay0, h n (.head _), canLay_strs r fun x hx => h x (.tail _ hx)]
theorem depth_strs : ∀ xs : List (List Nat), PyData.depthAll (xs.map fun x => PyData.str (S x)) ≤ 1
  | [] => by simp [PyData.depthAll]
  | n :: r => by
    have := depth_strs r
    simp only [List.map_cons, PyData.depthAll, PyData.depth]
    (first | decide | lia | omega)
theorem shaped_strs (xs : List (List Nat)) (hx : ∀ x ∈ xs, PyData.strOk (S x) = true) : shaped (.list (xs.map fun x => PyData.str (S x))) = true := by
  have h1 := depth_strs xs
  have h2 : PyData.depth (.list (xs.map fun x => PyData.str (S x))) ≤ 64 := by simp only [PyData.depth]; (first | decide | lia | omega)
  show (PyData.canLay0 (.list (xs.map fun x => PyData.str (S x))) && decide (PyData.depth (.list (xs.map fun x => PyData.str (S x))) ≤ 64)) = true
  rw [Bool.and_eq_true]
  exact ⟨by simp only [PyData.canLay0]; exact canLay_strs xs hx, decide_eq_true h2⟩
theorem noMix_strs : ∀ xs : List (List Nat), noMixAll (xs.map fun x => PyData.str (S x)) (xs.map fun x => PyData.str (S x)) = true
  | [] => by simp [noMixAll]
  | n :: r => by simp [noMixAll, noMix, noMix_strs r]
theorem same_strs : ∀ xs : List (List Nat), PySem.Spec.sameAll (xs.map fun x => PyData.str (S x)) (xs.map fun x => PyData.str (S x)) = true
  | [] => by simp [PySem.Spec.sameAll]
  | n :: r => by simp [PySem.Spec.sameAll, PySem.Spec.same, same_strs r]
section
variable {prog : Program} {w : World} {A : Around} {E : Value → Shared → Prop} {s : Shared}
theorem ne_strs {a b : Addr} {vs us : List Value} {xs : List (List Nat)} {Q : Value → Shared → Prop} (hl : s.heap.IsList a vs.toArray) (hi : Mine.Internal.SgsAre vs xs) (hl' : s.heap.IsList b us.toArray) (hi' : Mine.Internal.SgsAre us xs) (hx : ∀ x ∈ xs, PyData.strOk (S x) = true) (hu : A.units + 64 < cLine)
    (h : Q (.bool false) s) : wpAny (model prog w) A (compareOp .NotEq (.ref a) (.ref b)) Q E s :=
  ne_dataH_same (reads_strs hl hi) (reads_strs hl' hi') (shaped_strs xs hx) (shaped_strs xs hx) hu (by simp only [noMix]; exact noMix_strs xs) (by simp only [PySem.Spec.same]; rw [same_strs]; exact h)
noncomputable abbrev nestD (v : Int) : PyData := .list [.list [.str (S []), .list [.int v]]]
theorem reads_nest {h : Heap} {bg a n : Addr} {v : Int} {t1 t2 : Tok} (h1 : h.IsList bg [Value.ref a].toArray) (h2 : h.IsList a [Value.str (S []) t1, Value.ref n].toArray) (h3 : h.IsList n [Value.int v t2].toArray) : Reads h (.ref bg) (nestD v) [bg, a, n] := by
  obtain ⟨o1, a1, b1, n1, c1⟩ := h1
  show (let zG : Prop := _; zG)
  intro zG
  obtain ⟨o2, a2, b2, n2, c2⟩ := h2
  obtain ⟨o3, a3, b3, n3, c3⟩ := h3
  have r3 : Reads h (.ref n) (.list [.int v]) [n] := Reads.list a3 b3 c3 (by simpa using ReadsAll.cons (Reads.int (h := h) v t2) .nil)
  have r2 : Reads h (.ref a) (.list [.str (S []), .list [.int v]]) [a, n] := Reads.list a2 b2 c2 (by simpa using ReadsAll.cons (Reads.str (h := h) (S []) t1) (ReadsAll.cons r3 .nil))
  (try k_unmd); k_unfold
  exact Reads.list a1 b1 c1 (by simpa using ReadsAll.cons r2 .nil)
theorem eq_nest {bg a n bg' a' n' : Addr} {v : Int} {Q : Value → Shared → Prop} (r : Reads s.heap (.ref bg) (nestD v) [bg, a, n]) (r' : Reads s.heap (.ref bg') (nestD v) [bg', a', n']) (hu : A.units + 64 < cLine)
    (h : Q (.bool true) s) : wpAny (model prog w) A (compareOp .Eq (.ref bg) (.ref bg')) Q E s :=
  eq_dataH_same r r' (by simp [shaped, PyData.layable0, PyData.canLay0, PyData.canLayAll0, PyData.depth, PyData.depthAll]; exact strOk_S [] (by simp)) (by simp [shaped, PyData.layable0, PyData.canLay0, PyData.canLayAll0, PyData.depth, PyData.depthAll]; exact strOk_S [] (by simp)) hu (by simp [noMix, noMixAll]) (by simpa [PySem.Spec.same, PySem.Spec.sameAll] using h)
end
end Mine.Internal
end PartEQ
section PartLP
open PySem PySem.W PyProof.Rows
namespace Mine.Internal
noncomputable def pageL (tl : List Nat) (d : Nat) (k : Nat) : List (List Nat) := (List.range k).map fun k => spelled (d / 12 ^ k) (letters0 (tl.getD k 0))
theorem pageL_snoc (tl : List Nat) (d k : Nat) : pageL tl d (k + 1) = pageL tl d k ++ [spelled (d / 12 ^ k) (letters0 (tl.getD k 0))] := by
  unfold pageL
  rw [List.range_succ, List.map_append]; rfl
theorem hexD_len : ∀ j n, (hexD j n).length = j + 1
  | 0, _ => rfl
  | j + 1, n => by
    show (_ :: hexD j n).length = _
    rw [List.length_cons, hexD_len j n]
theorem letters0_short {n : Nat} (h : n < 2 ^ 120) : (letters0 n).length ≤ 1000 := by
  unfold letters0
  split
  · exact Nat.zero_le _
  · unfold letters
    rw [hexD_len]
    have : n.log2 < 120 := by
      rename_i h0
      exact (Nat.log2_lt h0).mpr h
    (first | decide | lia | omega)
noncomputable def GrowOk (page : List Nat) (p k : Nat) (doc : List Nat) (tok : List Nat) (nf inf xs : List (List Nat)) : Prop :=
  (tokA (page.drop p) = some (tok, k)) ∧ (growO 60 [] [[]] [tok] = some (nf, inf)) ∧ (toldO nf inf 10 0 = some xs) ∧ (nf.length ≤ 100 ∧ inf.length ≤ 100 ∧ xs.length ≤ 300 ∧ xs.flatten.length ≤ 5000) ∧ (∀ u ∈ nf, okW u = true) ∧ (xs.flatten = doc) ∧ (p ≤ 1001)
theorem GrowOk.tk {page : List Nat} {p k : Nat} {doc : List Nat} {tok : List Nat} {nf inf xs : List (List Nat)} (h : GrowOk page p k doc tok nf inf xs) : tokA (page.drop p) = some (tok, k) := h.1
theorem GrowOk.gr {page : List Nat} {p k : Nat} {doc : List Nat} {tok : List Nat} {nf inf xs : List (List Nat)} (h : GrowOk page p k doc tok nf inf xs) : growO 60 [] [[]] [tok] = some (nf, inf) := h.2.1
theorem GrowOk.to {page : List Nat} {p k : Nat} {doc : List Nat} {tok : List Nat} {nf inf xs : List (List Nat)} (h : GrowOk page p k doc tok nf inf xs) : toldO nf inf 10 0 = some xs := h.2.2.1
theorem GrowOk.bd {page : List Nat} {p k : Nat} {doc : List Nat} {tok : List Nat} {nf inf xs : List (List Nat)} (h : GrowOk page p k doc tok nf inf xs) : nf.length ≤ 100 ∧ inf.length ≤ 100 ∧ xs.length ≤ 300 ∧ xs.flatten.length ≤ 5000 := h.2.2.2.1
theorem GrowOk.ok {page : List Nat} {p k : Nat} {doc : List Nat} {tok : List Nat} {nf inf xs : List (List Nat)} (h : GrowOk page p k doc tok nf inf xs) : ∀ u ∈ nf, okW u = true := h.2.2.2.2.1
theorem GrowOk.eq {page : List Nat} {p k : Nat} {doc : List Nat} {tok : List Nat} {nf inf xs : List (List Nat)} (h : GrowOk page p k doc tok nf inf xs) : xs.flatten = doc := h.2.2.2.2.2.1
theorem GrowOk.pb {page : List Nat} {p k : Nat} {doc : List Nat} {tok : List Nat} {nf inf xs : List (List Nat)} (h : GrowOk page p k doc tok nf inf xs) : p ≤ 1001 := h.2.2.2.2.2.2
def LawFacts (lk : List (Nat × Nat)) (goal wanted draw : Nat) : Prop := ∀ zG : Prop, (∀ (number : Nat) (moved : Nat) (n2 : Nat) (first : List Nat) (second : List Nat) (third : List Nat) (whole : Nat) (page : List Nat) (k0 : Nat) (k1 : Nat) (k2 : Nat) (k3 : Nat) (k4 : Nat) (k5 : Nat) (tok0 : List Nat) (tok1 : List Nat) (tok2 : List Nat) (nf0 : List (List Nat)) (inf0 : List (List Nat)) (xs0 : List (List Nat)) (nf1 : List (List Nat)) (inf1 : List (List Nat)) (xs1 : List (List Nat)) (nf2 : List (List Nat)) (inf2 : List (List Nat)) (xs2 : List (List Nat)),
    (hungO lk 10 1 0 = some (number, first)) →
    (rehungO lk goal number = some moved) →
    (hungO lk 10 goal 0 = some (n2, second)) →
    (lk.length ≤ 10) →
    (1 ≤ number ∧ number ≤ 100) →
    (1 ≤ moved ∧ moved ≤ 100) →
    (1 ≤ wanted ∧ wanted ≤ 70) →
    (1 ≤ goal ∧ goal ≤ 6) →
    (whole = (number * moved * wanted) ^ goal) →
    (whole < 2 ^ 120) →
    (page = (pageL [number, moved, wanted, whole, 0] draw 5).flatten) →
    (page.length ≤ 1000) →
    (first.length ≤ 1000 ∧ second.length ≤ 1000 ∧ third.length ≤ 1000) →
    ((∀ c ∈ letters whole, c < 128) ∧ (∀ c ∈ first, c < 128) ∧ (∀ c ∈ second, c < 128)) →
    (GrowOk page 0 k0 first tok0 nf0 inf0 xs0) →
    (GrowOk page k0 k1 second tok1 nf1 inf1 xs1) →
    (GrowOk page (k0 + k1) k2 third tok2 nf2 inf2 xs2) →
    (readO third = some [([], [wanted])]) →
    (tokA (page.drop (k0 + k1 + k2)) = some (letters whole, k3)) →
    (tokA (page.drop (k0 + k1 + k2 + k3)) = some ([], k4)) →
    (tokA (page.drop (k0 + k1 + k2 + k3 + k4)) = some ([], k5)) →
    (k0 + k1 + k2 + k3 + k4 ≤ 1005) →
    (page.length ≤ k0 + k1 + k2 + k3 + k4 + k5) → zG) → zG
end Mine.Internal
end PartLP
section PartLQ
open PySem PySem.W PyProof.Rows
namespace Mine.Internal
noncomputable def docO (n : Nat) : Option (List (List Nat) × List (List Nat) × List (List Nat)) := match growO 60 [] [[]] [letters0 n] with
  | none => none
  | some (nf, inf) => match toldO nf inf 10 0 with
    | none => none
    | some xs => some (nf, inf, xs)
noncomputable def docB (n : Nat) : Bool := match docO n with
  | none => false
  | some (nf, inf, xs) => decide (nf.length ≤ 100 ∧ inf.length ≤ 100 ∧ xs.length ≤ 300 ∧ xs.flatten.length ≤ 1000) && nf.all okW && (readO xs.flatten == some [([], [n])]) && xs.flatten.all (fun c => decide (c < 128))
noncomputable def treeB (sz : Nat) (t : List (Nat × Nat)) : Bool := match hungO t 10 1 0 with
  | none => false
  | some (n1, pg1) => decide (1 ≤ n1 ∧ n1 ≤ 70) && ((docO n1).map (fun x => x.2.2.flatten) == some pg1) && (List.range (sz - 1)).all fun r => match hungO t 10 (r + 2) 0 with
    | none => false
    | some (n, pg) => decide (1 ≤ n ∧ n ≤ 70) && ((docO n).map (fun x => x.2.2.flatten) == some pg) && (rehungO t (r + 2) n1 == some n)
theorem docs_ok : (List.range 70).all (fun i => docB (i + 1)) = true := by decide +kernel
theorem trees4_ok : (List.range 2).all (fun b => (List.range 3).all fun c => treeB 4 [(2, 1), (3, 1 + b), (4, 1 + c)]) = true := by decide +kernel
theorem trees5_ok : (List.range 2).all (fun b => (List.range 3).all fun c => (List.range 4).all fun d => treeB 5 [(2, 1), (3, 1 + b), (4, 1 + c), (5, 1 + d)]) = true := by decide +kernel
theorem trees6_ok0 : (List.range 3).all (fun c => (List.range 4).all fun d => (List.range 5).all fun e => treeB 6 [(2, 1), (3, 1 + 0), (4, 1 + c), (5, 1 + d), (6, 1 + e)]) = true := by decide +kernel
theorem trees6_ok1 : (List.range 3).all (fun c => (List.range 4).all fun d => (List.range 5).all fun e => treeB 6 [(2, 1), (3, 1 + 1), (4, 1 + c), (5, 1 + d), (6, 1 + e)]) = true := by decide +kernel
end Mine.Internal
end PartLQ
section PartLR
open PySem PySem.W PyProof.Rows
namespace Mine.Internal
noncomputable def AllWs (l : List Nat) : Prop := ∀ c ∈ l, isWs c = true
theorem allWs_nil : AllWs [] := fun c h => by cases h
noncomputable def LetW (w : List Nat) : Prop := ∀ c ∈ w, 65 ≤ c ∧ c ≤ 80
theorem let_ok {c : Nat} (h : 65 ≤ c ∧ c ≤ 80) : isWs c = false ∧ c ≠ 34 ∧ c ≠ 92 := by
  refine ⟨?_, by (first | decide | lia | omega), by (first | decide | lia | omega)⟩
  unfold isWs
  simp
  (first | decide | lia | omega)
theorem wsOf_ws (d : Nat) : ∃ c, wsOf d = [c] ∧ isWs c = true := by
  unfold wsOf
  split <;> exact ⟨_, rfl, rfl⟩
theorem tokA_pre : ∀ {pre r tok : List Nat} {k : Nat}, AllWs pre → tokA r = some (tok, k) → tokA (pre ++ r) = some (tok, pre.length + k)
  | [], _, _, _, _, h => by simpa using h
  | c :: pre, r, tok, k, hp, h => by
    have ih := tokA_pre (pre := pre) (fun x hx => hp x (.tail _ hx)) h
    show tokA (c :: (pre ++ r)) = _
    rw [tokA_c]
    rw [if_pos (hp c (.head _)), ih, bump_s]
    simp only [List.length_cons]
    congr 2; (first | decide | lia | omega)
theorem tokA_end {pre : List Nat} (hp : AllWs pre) : tokA pre = some ([], pre.length + 1) := by
  have := tokA_pre (pre := pre) (r := []) (tok := []) (k := 1) hp rfl
  simpa using this
theorem tokW_plain : ∀ {w acc : List Nat} {c : Nat} {r : List Nat}, LetW w → isWs c = true → tokW acc (w ++ c :: r) = some (acc ++ w, w.length + 1)
  | [], acc, c, r, _, hc => by
    show tokW acc (c :: r) = _
    unfold tokW
    rw [if_pos hc]; simp
  | x :: w, acc, c, r, hw, hc => by
    have h1 := let_ok (hw x (.head _))
    have ih := tokW_plain (w := w) (acc := acc ++ [x]) (c := c) (r := r) (fun y hy => hw y (.tail _ hy)) hc
    show tokW acc (x :: (w ++ c :: r)) = _
    unfold tokW
    rw [if_neg (by rw [h1.1]; decide), if_neg h1.2.2, ih, bump_s]
    simp
theorem tokW_back : ∀ {w acc : List Nat} {c : Nat} {r : List Nat}, isWs c = true → tokW acc (w.flatMap (fun c => [92, c]) ++ c :: r) = some (acc ++ w, 2 * w.length + 1)
  | [], acc, c, r, hc => by
    show tokW acc (c :: r) = _
    unfold tokW
    rw [if_pos hc]; simp
  | x :: w, acc, c, r, hc => by
    have ih := tokW_back (w := w) (acc := acc ++ [x]) (c := c) (r := r) hc
    show tokW acc (92 :: x :: (w.flatMap (fun c => [92, c]) ++ c :: r)) = _
    unfold tokW
    rw [if_neg (by decide), if_pos rfl]
    dsimp only
    rw [ih, bump_s]
    simp; (first | decide | lia | omega)
theorem tokQ_plain : ∀ {w acc r : List Nat}, LetW w → tokQ acc (w ++ 34 :: r) = some (acc ++ w, w.length + 1)
  | [], acc, r, _ => by
    show tokQ acc (34 :: r) = _
    rw [tokQ_c]
    rw [if_pos rfl]; simp
  | x :: w, acc, r, hw => by
    have h1 := let_ok (hw x (.head _))
    have ih := tokQ_plain (w := w) (acc := acc ++ [x]) (r := r) fun y hy => hw y (.tail _ hy)
    show tokQ acc (x :: (w ++ 34 :: r)) = _
    rw [tokQ_c]
    rw [if_neg h1.2.1, if_neg h1.2.2, ih, bump_s]
    simp
theorem tok_word0 {d : Nat} {w rest : List Nat} (hw : LetW w) (hne : w ≠ []) : ∃ k pre2, tokA (spelled d w ++ rest) = some (w, k) ∧ AllWs pre2 ∧ (spelled d w ++ rest).drop k = pre2 ++ rest := by
  show (let zG : Prop := _; zG)
  intro zG
  obtain ⟨c, hc, hcw⟩ := wsOf_ws d
  (try k_unmd); k_unfold
  unfold spelled bare
  rw [hc]
  split
  · refine ⟨w.length + 2, [c], ?_, fun x hx => by simpa using (by simpa using hx : x = c) ▸ hcw, ?_⟩
    · show tokA (34 :: (w ++ [34] ++ [c] ++ rest)) = _
      rw [tokA_c]
      rw [if_neg (by decide), if_pos rfl, show w ++ [34] ++ [c] ++ rest = w ++ 34 :: (c :: rest) from by simp, tokQ_plain hw, bump_s]
      simp
    · rw [show 34 :: (w ++ [34]) ++ [c] ++ rest = (34 :: (w ++ [34])) ++ ([c] ++ rest) from by simp]
      exact List.drop_left' (by simp)
  · split
    · match w, hne with
      | x :: w, _ =>
        refine ⟨2 * w.length + 3, [], ?_, allWs_nil, ?_⟩
        · show tokA (92 :: x :: (w.flatMap (fun c => [92, c]) ++ [c] ++ rest)) = _
          rw [tokA_c]
          rw [if_neg (by decide), if_neg (by decide), if_pos rfl]
          dsimp only
          rw [show w.flatMap (fun c => [92, c]) ++ [c] ++ rest = w.flatMap (fun c => [92, c]) ++ c :: rest from by simp, tokW_back hcw, bump_s]
          simp
        · refine List.drop_left' ?_
          have : ∀ l : List Nat, (l.flatMap fun c => [92, c]).length = 2 * l.length := fun l => by
            induction l with
            | nil => rfl
            | cons a l ih => rw [List.flatMap_cons, List.length_append, ih]; simp; (first | decide | lia | omega)
          rw [List.length_append, this]; simp; (first | decide | lia | omega)
    · match w, hne, hw with
      | x :: w, _, hw =>
        have h1 := let_ok (hw x (.head _))
        refine ⟨w.length + 2, [], ?_, allWs_nil, ?_⟩
        · show tokA (x :: (w ++ [c] ++ rest)) = _
          rw [tokA_c]
          rw [if_neg (by rw [h1.1]; decide), if_neg h1.2.1, if_neg h1.2.2, show w ++ [c] ++ rest = w ++ c :: rest from by simp, tokW_plain (fun y hy => hw y (.tail _ hy)) hcw, bump_s]
          simp
        · exact List.drop_left' (by simp)
theorem tok_word {d : Nat} {pre w rest : List Nat} (hp : AllWs pre) (hw : LetW w) (hne : w ≠ []) : ∃ k pre2, tokA (pre ++ (spelled d w ++ rest)) = some (w, k) ∧ AllWs pre2 ∧ (pre ++ (spelled d w ++ rest)).drop k = pre2 ++ rest := by
  show (let zG : Prop := _; zG)
  intro zG
  obtain ⟨k, pre2, h1, h2, h3⟩ := tok_word0 (d := d) (rest := rest) hw hne
  (try k_unmd); k_unfold
  refine ⟨pre.length + k, pre2, tokA_pre hp h1, h2, ?_⟩
  rw [← List.drop_drop, List.drop_left, h3]
theorem tok_last {d : Nat} {pre : List Nat} (hp : AllWs pre) : ∃ k pre2, tokA (pre ++ spelled d []) = some ([], k) ∧ AllWs pre2 ∧ (pre ++ spelled d []).drop k = pre2 := by
  show (let zG : Prop := _; zG)
  intro zG
  obtain ⟨c, hc, hcw⟩ := wsOf_ws d
  have hcA : AllWs [c] := fun x hx => by simpa using (by simpa using hx : x = c) ▸ hcw
  (try k_unmd); k_unfold
  unfold spelled bare
  rw [hc]
  split
  · refine ⟨pre.length + 2, [c], tokA_pre hp ?_, hcA, ?_⟩
    · show tokA (34 :: 34 :: [c]) = _
      rw [tokA_c]
      rw [if_neg (by decide), if_pos rfl]
      rfl
    · rw [← List.drop_drop, List.drop_left]; rfl
  · have hA : AllWs (pre ++ [c]) := fun x hx => by
      rcases List.mem_append.mp hx with h | h
      · exact hp x h
      · exact hcA x h
    have he : (if d % 3 = 2 then ([] : List Nat).flatMap (fun c => [92, c]) else []) ++ [c] = [c] := by split <;> rfl
    rw [he]
    refine ⟨(pre ++ [c]).length + 1, [], tokA_end hA, allWs_nil, ?_⟩
    exact List.drop_eq_nil_of_le (by (first | decide | lia | omega))
end Mine.Internal
end PartLR
section PartLS
open PySem PySem.W PyProof.Rows
namespace Mine.Internal
theorem hexD_let : ∀ j n, LetW (hexD j n)
  | 0, n => fun c hc => by
    have : c = 65 + n % 16 := by simpa [hexD_0] using hc
    exact this ▸ ⟨Nat.le_add_right _ _, Nat.add_le_add_left (Nat.le_of_lt_succ (Nat.mod_lt _ (by decide))) 65⟩
  | j + 1, n => fun c hc => by
    have h : c = 65 + n / 16 ^ (j + 1) % 16 ∨ c ∈ hexD j n := by simpa [hexD_c] using hc
    rcases h with h | h
    · exact h ▸ ⟨Nat.le_add_right _ _, Nat.add_le_add_left (Nat.le_of_lt_succ (Nat.mod_lt _ (by decide))) 65⟩
    · exact hexD_let j n c h
theorem let0 (n : Nat) : LetW (letters0 n) := by
  unfold letters0
  split
  · exact fun c hc => by cases hc
  · exact hexD_let _ _
theorem ne0 {n : Nat} (h : 1 ≤ n) : letters0 n ≠ [] := by
  unfold letters0
  rw [if_neg (by (first | decide | lia | omega))]
  intro e
  have := hexD_len (n.log2 / 4) n
  unfold letters at e
  rw [e] at this
  cases this
theorem letters0_len {n : Nat} (h : n < 2 ^ 120) : (letters0 n).length ≤ 31 := by
  unfold letters0
  split
  · exact Nat.zero_le _
  · rename_i h0
    unfold letters
    rw [hexD_len]
    have : n.log2 < 4 * 30 := (Nat.log2_lt h0).mpr h
    exact Nat.succ_le_succ (Nat.le_of_lt (Nat.div_lt_of_lt_mul this))
theorem spelled_len (d : Nat) (w : List Nat) : (spelled d w).length ≤ 2 * w.length + 3 := by
  obtain ⟨c, hc, _⟩ := wsOf_ws d
  have hf : ∀ l : List Nat, (l.flatMap fun c => [92, c]).length = 2 * l.length := fun l => by
    induction l with
    | nil => rfl
    | cons a l ih => rw [List.flatMap_cons, List.length_append, ih]; simp; (first | decide | lia | omega)
  unfold spelled bare
  rw [hc, List.length_append]
  split
  · simp; (first | decide | lia | omega)
  · split
    · rw [hf]; simp
    · simp; (first | decide | lia | omega)
theorem doc_facts {v : Nat} (h : docB v = true) : ∃ nf inf xs, growO 60 [] [[]] [letters0 v] = some (nf, inf) ∧ toldO nf inf 10 0 = some xs ∧ (nf.length ≤ 100 ∧ inf.length ≤ 100 ∧ xs.length ≤ 300 ∧ xs.flatten.length ≤ 1000) ∧ (∀ u ∈ nf, okW u = true) ∧ readO xs.flatten = some [([], [v])] ∧ (∀ c ∈ xs.flatten, c < 128) ∧ docO v = some (nf, inf, xs) := by
  unfold docB at h
  split at h
  · cases h
  · rename_i nf inf xs e
    simp only [Bool.and_eq_true, decide_eq_true_eq, List.all_eq_true, beq_iff_eq] at h
    show (let zG : Prop := _; zG)
    intro zG
    obtain ⟨⟨⟨h1, h2⟩, h3⟩, h4⟩ := h
    have e' := e
    (try k_unmd); k_unfold
    unfold docO at e'
    split at e'
    · cases e'
    · rename_i nf' inf' eg
      split at e'
      · cases e'
      · rename_i xs' et
        show (let zG : Prop := _; zG)
        intro zG
        obtain ⟨rfl, rfl, rfl⟩ : nf' = nf ∧ inf' = inf ∧ xs' = xs := by simpa using e'
        (try k_unmd); k_unfold
        exact ⟨nf', inf', xs', eg, et, h1, h2, h3, h4, e⟩
theorem tree_facts {sz r : Nat} {t : List (Nat × Nat)} (h : treeB sz t = true) (hr : r < sz - 1) : ∃ n1 pg1 n pg, hungO t 10 1 0 = some (n1, pg1) ∧ (1 ≤ n1 ∧ n1 ≤ 70) ∧ (docO n1).map (fun x => x.2.2.flatten) = some pg1 ∧ hungO t 10 (r + 2) 0 = some (n, pg) ∧ (1 ≤ n ∧ n ≤ 70) ∧ (docO n).map (fun x => x.2.2.flatten) = some pg ∧ rehungO t (r + 2) n1 = some n := by
  unfold treeB at h
  split at h
  · cases h
  · rename_i n1 pg1 e1
    simp only [Bool.and_eq_true, decide_eq_true_eq, List.all_eq_true, beq_iff_eq, List.mem_range] at h
    show (let zG : Prop := _; zG)
    intro zG
    obtain ⟨⟨h1, h2⟩, h3⟩ := h
    have h4 := h3 r hr
    (try k_unmd); k_unfold
    split at h4
    · cases h4
    · rename_i n pg e2
      simp only [Bool.and_eq_true, decide_eq_true_eq, beq_iff_eq] at h4
      exact ⟨n1, pg1, n, pg, e1, h1, h2, e2, h4.1.1, h4.1.2, h4.2⟩
theorem docs_at {v : Nat} (h : 1 ≤ v ∧ v ≤ 70) : docB v = true := by
  have := docs_ok
  simp only [List.all_eq_true, List.mem_range] at this
  have := this (v - 1) (Nat.lt_of_lt_of_le (Nat.sub_lt h.1 Nat.one_pos) h.2)
  rwa [show v - 1 + 1 = v from Nat.sub_add_cancel h.1] at this
theorem drop_pos {l : List Nat} {p k : Nat} : l.drop (p + k) = (l.drop p).drop k := by rw [List.drop_drop]
theorem step_le {j a P c : Nat} (h : j ≤ P - a + 1) (k : a ≤ P + c) : a + j ≤ P + (c + 1) := by
  rcases Nat.le_total a P with q | q
  · exact Nat.le_trans (Nat.add_le_add_left h a) (by rw [← Nat.add_assoc, Nat.add_sub_cancel' q]; exact Nat.add_le_add_left (Nat.le_add_left 1 c) P)
  · rw [Nat.sub_eq_zero_of_le q] at h; exact (Nat.add_le_add k h : a + j ≤ (P + c) + 1)
theorem le_back (P S : Nat) : P ≤ S + (P - S + 1) := Nat.le_succ_of_le (Nat.sub_le_iff_le_add'.mp (Nat.le_refl _))
theorem goal_le {r sz : Nat} (hr : r < sz - 1) (hsz : sz ≤ 6) : r + 2 ≤ 6 := Nat.succ_le_succ (Nat.le_trans hr (Nat.sub_le_sub_right hsz 1))
theorem len_le {a b c d e P : Nat} (h : P = a + (b + (c + (d + e)))) {x y z u : Nat} (qa : a ≤ 2 * x + 3) (qb : b ≤ 2 * y + 3) (qc : c ≤ 2 * z + 3) (qd : d ≤ 2 * u + 3) (qe : e ≤ 2 * 0 + 3) (rx : x ≤ 31) (ry : y ≤ 31) (rz : z ≤ 31) (ru : u ≤ 31) : P ≤ 500 := by (first | decide | lia | omega)
theorem core {lk : List (Nat × Nat)} {sz r wanted draw : Nat} (ht : treeB sz lk = true) (hr : r < sz - 1) (hw : 1 ≤ wanted ∧ wanted ≤ 70) (hl : lk.length ≤ 10) (hsz : sz ≤ 6) : Nonempty (LawFacts lk (r + 2) wanted draw) := by
  obtain ⟨n1, pg1, n, pg, e1, b1, c1, e2, b2, c2, e3⟩ := tree_facts ht hr
  show (let zG : Prop := _; zG)
  intro zG
  obtain ⟨nf0, inf0, xs0, g0, o0, z0, k0, -, a0, d0⟩ := doc_facts (docs_at b1)
  obtain ⟨nf1, inf1, xs1, g1, o1, z1, k1, -, a1, d1⟩ := doc_facts (docs_at b2)
  obtain ⟨nf2, inf2, xs2, g2, o2, z2, k2, rd, a2, d2⟩ := doc_facts (docs_at hw)
  (try k_unmd); k_unfold
  rw [d0] at c1
  rw [d1] at c2
  have f0 : xs0.flatten = pg1 := by simpa using c1
  have f1 : xs1.flatten = pg := by simpa using c2
  show (let zG : Prop := _; zG)
  intro zG
  obtain ⟨whole, hwh⟩ : ∃ x, x = (n1 * n * wanted) ^ (r + 2) := ⟨_, rfl⟩
  have hnum : n1 * n * wanted ≤ 2 ^ 19 := Nat.le_trans (Nat.mul_le_mul (Nat.mul_le_mul b1.2 b2.2) hw.2) (by decide)
  have hwb : whole < 2 ^ 120 := by
    rw [hwh]
    refine Nat.lt_of_le_of_lt (Nat.pow_le_pow_left hnum (r + 2)) ?_
    rw [← Nat.pow_mul]
    exact Nat.pow_lt_pow_right (by decide) (Nat.lt_of_le_of_lt (Nat.mul_le_mul_left 19 (goal_le hr hsz)) (by decide))
  have hw1 : 1 ≤ whole := by
    rw [hwh]
    exact Nat.pow_pos (Nat.mul_pos (Nat.mul_pos b1.1 b2.1) hw.1)
  obtain ⟨page, hpage⟩ : ∃ x, x = (pageL [n1, n, wanted, whole, 0] draw 5).flatten := ⟨_, rfl⟩
  have hpg : page = spelled (draw / 12 ^ 0) (letters0 n1) ++ (spelled (draw / 12 ^ 1) (letters0 n) ++ (spelled (draw / 12 ^ 2) (letters0 wanted) ++ (spelled (draw / 12 ^ 3) (letters0 whole) ++ spelled (draw / 12 ^ 4) []))) := by
    rw [hpage]
    show (spelled (draw / 12 ^ 0) (letters0 n1) ++ (spelled (draw / 12 ^ 1) (letters0 n) ++ (spelled (draw / 12 ^ 2) (letters0 wanted) ++ (spelled (draw / 12 ^ 3) (letters0 whole) ++ (spelled (draw / 12 ^ 4) (letters0 0) ++ []))))) = _
    rw [List.append_nil]; rfl
  have hpl : page.length ≤ 500 := len_le (by rw [hpg, List.length_append, List.length_append, List.length_append, List.length_append]) (spelled_len _ _) (spelled_len _ _) (spelled_len _ _) (spelled_len _ _) (spelled_len _ []) (letters0_len (Nat.lt_of_le_of_lt b1.2 (by decide))) (letters0_len (Nat.lt_of_le_of_lt b2.2 (by decide))) (letters0_len (Nat.lt_of_le_of_lt hw.2 (by decide))) (letters0_len hwb)
  obtain ⟨j0, p0, t0, w0, s0⟩ := tok_word (d := draw / 12 ^ 0) (pre := []) (w := letters0 n1) (rest := spelled (draw / 12 ^ 1) (letters0 n) ++ (spelled (draw / 12 ^ 2) (letters0 wanted) ++ (spelled (draw / 12 ^ 3) (letters0 whole) ++ spelled (draw / 12 ^ 4) []))) allWs_nil (let0 _) (ne0 b1.1)
  (try k_unmd); k_unfold
  rw [List.nil_append, ← hpg] at t0 s0
  show (let zG : Prop := _; zG)
  intro zG
  obtain ⟨j1, p1, t1, w1, s1⟩ := tok_word (d := draw / 12 ^ 1) (pre := p0) (w := letters0 n) (rest := spelled (draw / 12 ^ 2) (letters0 wanted) ++ (spelled (draw / 12 ^ 3) (letters0 whole) ++ spelled (draw / 12 ^ 4) [])) w0 (let0 _) (ne0 b2.1)
  (try k_unmd); k_unfold
  rw [← s0, ← drop_pos] at s1
  rw [← s0] at t1
  show (let zG : Prop := _; zG)
  intro zG
  obtain ⟨j2, p2, t2, w2, s2⟩ := tok_word (d := draw / 12 ^ 2) (pre := p1) (w := letters0 wanted) (rest := spelled (draw / 12 ^ 3) (letters0 whole) ++ spelled (draw / 12 ^ 4) []) w1 (let0 _) (ne0 hw.1)
  (try k_unmd); k_unfold
  rw [← s1, ← drop_pos] at s2
  rw [← s1] at t2
  show (let zG : Prop := _; zG)
  intro zG
  obtain ⟨j3, p3, t3, w3, s3⟩ := tok_word (d := draw / 12 ^ 3) (pre := p2) (w := letters0 whole) (rest := spelled (draw / 12 ^ 4) []) w2 (let0 _) (ne0 hw1)
  (try k_unmd); k_unfold
  rw [← s2, ← drop_pos] at s3
  rw [← s2] at t3
  show (let zG : Prop := _; zG)
  intro zG
  obtain ⟨j4, p4, t4, w4, s4⟩ := tok_last (d := draw / 12 ^ 4) (pre := p3) w3
  (try k_unmd); k_unfold
  rw [← s3, ← drop_pos] at s4
  rw [← s3] at t4
  have t5 := tokA_end w4
  rw [← s4] at t5
  have y0 := tokA_le t0
  have y1 := tokA_le t1
  have y2 := tokA_le t2
  have y3 := tokA_le t3
  have y4 := tokA_le t4
  rw [List.length_drop] at y1 y2 y3 y4
  have y5 := congrArg List.length s4
  rw [List.length_drop] at y5
  have v0 : j0 ≤ page.length + 1 := y0
  have v1 : j0 + j1 ≤ page.length + 2 := step_le y1 v0
  have v2 : j0 + j1 + j2 ≤ page.length + 3 := step_le y2 v1
  have v3 : j0 + j1 + j2 + j3 ≤ page.length + 4 := step_le y3 v2
  have v4 : j0 + j1 + j2 + j3 + j4 ≤ page.length + 5 := step_le y4 v3
  have hlw : letters whole = letters0 whole := by unfold letters0; rw [if_neg (by (first | decide | lia | omega))]
  have hch : ∀ c ∈ letters whole, c < 128 := fun c hc => by
    rw [hlw] at hc
    have := let0 whole c hc
    (first | decide | lia | omega)
  have q0 : GrowOk page 0 j0 pg1 (letters0 n1) nf0 inf0 xs0 := ⟨t0, g0, o0, ⟨z0.1, z0.2.1, z0.2.2.1, Nat.le_trans z0.2.2.2 (by decide)⟩, k0, f0, Nat.zero_le _⟩
  have q1 : GrowOk page j0 j1 pg (letters0 n) nf1 inf1 xs1 := ⟨t1, g1, o1, ⟨z1.1, z1.2.1, z1.2.2.1, Nat.le_trans z1.2.2.2 (by decide)⟩, k1, f1, Nat.le_trans v0 (Nat.le_trans (Nat.add_le_add_right hpl _) (by decide))⟩
  have q2 : GrowOk page (j0 + j1) j2 xs2.flatten (letters0 wanted) nf2 inf2 xs2 := ⟨t2, g2, o2, ⟨z2.1, z2.2.1, z2.2.2.1, Nat.le_trans z2.2.2.2 (by decide)⟩, k2, rfl, Nat.le_trans v1 (Nat.le_trans (Nat.add_le_add_right hpl _) (by decide))⟩
  rw [f0] at z0 a0
  rw [f1] at z1 a1
  rw [← hlw] at t3
  have u1 : 1 ≤ n1 ∧ n1 ≤ 100 := ⟨b1.1, Nat.le_trans b1.2 (by decide)⟩
  have u2 : 1 ≤ n ∧ n ≤ 100 := ⟨b2.1, Nat.le_trans b2.2 (by decide)⟩
  have u3 : 1 ≤ r + 2 ∧ r + 2 ≤ 6 := ⟨Nat.le_add_left 1 (r + 1), goal_le hr hsz⟩
  have u4 : page.length ≤ 1000 := Nat.le_trans hpl (by decide)
  have u5 : j0 + j1 + j2 + j3 + j4 ≤ 1005 := Nat.le_trans v4 (Nat.le_trans (Nat.add_le_add_right hpl _) (by decide))
  have u6 : page.length ≤ j0 + j1 + j2 + j3 + j4 + ((page.drop (j0 + j1 + j2 + j3 + j4)).length + 1) := by rw [List.length_drop]; exact le_back _ _
  exact ⟨fun _ zk => zk n1 n n pg1 pg xs2.flatten whole page j0 j1 j2 j3 j4 ((page.drop (j0 + j1 + j2 + j3 + j4)).length + 1) (letters0 n1) (letters0 n) (letters0 wanted) nf0 inf0 xs0 nf1 inf1 xs1 nf2 inf2 xs2 e1 e3 e2 hl u1 u2 hw u3 hwh hwb hpage u4 ⟨z0.2.2.2, z1.2.2.2, z2.2.2.2⟩ ⟨hch, a0, a1⟩ q0 q1 q2 rd t3 t4 t5 u5 u6⟩
theorem t4_at (b c : Nat) (hb : b < 2) (hc : c < 3) : treeB 4 [(2, 1), (3, 1 + b), (4, 1 + c)] = true := by
  have h := trees4_ok
  simp only [List.all_eq_true, List.mem_range] at h
  exact h b hb c hc
theorem t5_at (b c d : Nat) (hb : b < 2) (hc : c < 3) (hd : d < 4) : treeB 5 [(2, 1), (3, 1 + b), (4, 1 + c), (5, 1 + d)] = true := by
  have h := trees5_ok
  simp only [List.all_eq_true, List.mem_range] at h
  exact h b hb c hc d hd
theorem t6_at (b c d e : Nat) (hb : b < 2) (hc : c < 3) (hd : d < 4) (he : e < 5) : treeB 6 [(2, 1), (3, 1 + b), (4, 1 + c), (5, 1 + d), (6, 1 + e)] = true := by
  have h0 := trees6_ok0
  have h1 := trees6_ok1
  simp only [List.all_eq_true, List.mem_range] at h0 h1
  have : b = 0 ∨ b = 1 := by (first | decide | lia | omega)
  rcases this with h | h <;> subst h
  · exact h0 c hc d hd e he
  · exact h1 c hc d hd e he
theorem lawFacts (ns : List Int) : Nonempty (LawFacts (linksOf (cellsOf ns) (sizeOf' ns - 1)) (goalOf (cellsOf ns) (sizeOf' ns - 1)) (wantedOf (cellsOf ns)) (drawOf (cellsOf ns))) := by
  generalize cellsOf ns = cs
  have hw : 1 ≤ wantedOf cs ∧ wantedOf cs ≤ 70 := by
    unfold wantedOf
    have := Nat.mod_lt (cs.getD 0 0) (show 0 < 70 by decide)
    (first | decide | lia | omega)
  have hgo : ∀ k, goalOf cs k = cs.getD 5 0 / 1728 % k + 2 := fun k => by unfold goalOf; (first | decide | lia | omega)
  have hs : sizeOf' ns = 4 ∨ sizeOf' ns = 5 ∨ sizeOf' ns = 6 := by unfold sizeOf'; (first | decide | lia | omega)
  rcases hs with h | h | h <;> rw [h, hgo]
  · have e : linksOf cs (4 - 1) = [(2, 1), (3, 1 + cs.getD 1 0 % 2), (4, 1 + cs.getD 2 0 % 3)] := by
      show [(2, 1 + cs.getD 0 0 % 1), (3, 1 + cs.getD 1 0 % 2), (4, 1 + cs.getD 2 0 % 3)] = _
      rw [Nat.mod_one]
    rw [e]
    exact core (sz := 4) (t4_at _ _ (Nat.mod_lt _ (by decide)) (Nat.mod_lt _ (by decide))) (Nat.mod_lt _ (by decide)) hw (by simp) (by decide)
  · have e : linksOf cs (5 - 1) = [(2, 1), (3, 1 + cs.getD 1 0 % 2), (4, 1 + cs.getD 2 0 % 3), (5, 1 + cs.getD 3 0 % 4)] := by
      show [(2, 1 + cs.getD 0 0 % 1), (3, 1 + cs.getD 1 0 % 2), (4, 1 + cs.getD 2 0 % 3), (5, 1 + cs.getD 3 0 % 4)] = _
      rw [Nat.mod_one]
    rw [e]
    exact core (sz := 5) (t5_at _ _ _ (Nat.mod_lt _ (by decide)) (Nat.mod_lt _ (by decide)) (Nat.mod_lt _ (by decide))) (Nat.mod_lt _ (by decide)) hw (by simp) (by decide)
  · have e : linksOf cs (6 - 1) = [(2, 1), (3, 1 + cs.getD 1 0 % 2), (4, 1 + cs.getD 2 0 % 3), (5, 1 + cs.getD 3 0 % 4), (6, 1 + cs.getD 4 0 % 5)] := by
      show [(2, 1 + cs.getD 0 0 % 1), (3, 1 + cs.getD 1 0 % 2), (4, 1 + cs.getD 2 0 % 3), (5, 1 + cs.getD 3 0 % 4), (6, 1 + cs.getD 4 0 % 5)] = _
      rw [Nat.mod_one]
    rw [e]
    exact core (sz := 6) (t6_at _ _ _ _ (Nat.mod_lt _ (by decide)) (Nat.mod_lt _ (by decide)) (Nat.mod_lt _ (by decide)) (Nat.mod_lt _ (by decide))) (Nat.mod_lt _ (by decide)) hw (by simp) (by decide)
end Mine.Internal
end PartLS
open Mine.Internal
set_option hygiene false in
local macro_rules | `(tactic| wtm_at "rm") => `(tactic| first | (apply room_c; assumption; decide) | (apply room_cc; assumption; decide) | (apply room_0; assumption; decide) | (apply room_r0; assumption; decide) | (apply room_r1; assumption; decide) | (apply room_z; assumption))
set_option hygiene false in
local macro_rules | `(tactic| wtm_at "lk") => `(tactic| focus ((repeat (first | with_reducible exact Lk.hit | (with_reducible apply Lk.of; wtm_at "as") | (with_reducible apply Lk.skip; focus decide))); try exact Lk.of rfl))
set_option hygiene false in
local macro_rules | `(tactic| wtm_at "as") => `(tactic| with_reducible assumption)
set_option hygiene false in
local macro_rules | `(tactic| wtm_at "lo") => `(tactic| first | with_reducible (first | (apply le_t; assumption; decide) | (apply lt_t; assumption; decide) | (apply lt_tt; assumption; decide) | (apply le_add_t; assumption; decide) | exact Int.natCast_nonneg _) | lia | omega)
set_option hygiene false in
local macro_rules | `(tactic| wtm_at "lenx") => `(tactic| ((try simp only [List.length_cons, List.length_append, List.length_nil]); wtm_at "lo"))
set_option hygiene false in
local macro_rules | `(tactic| walk_at $s:str) => if ["binaryOp Add str str", "binaryOp Pow int int", "call builtin:iter", "call builtin:len", "call builtin:list.append", "call builtin:list.pop", "call builtin:sorted", "call builtin:str.count", "call builtin:str.join", "call builtin:str.split", "call ref", "call type:dict", "call type:enumerate", "compareOp Eq ref ref", "compareOp NotEq int int", "compareOp NotEq ref ref", "eval DictComp", "eval Lambda", "eval ListComp", "eval Set", "exec Assign", "exec Assign cons Call Attribute", "exec Assign cons DictComp", "exec Assign cons ListComp", "exec AugAssign", "exec Expr", "exec For", "exec For Name Call cons nil", "exec For Name Name cons nil", "exec For Name Subscript cons nil", "exec For Tuple Call cons nil", "exec For Tuple Name cons nil", "exec If", "exec While", "exec While Compare cons nil", "exec While Name cons nil", "getMethod ref", "setAdd", "subscriptTail"].contains s.getString then `(tactic| refine stop_at (s := $s) (by wtm_at "as") ?_) else Lean.Macro.throwUnsupported
set_option hygiene false in
local macro_rules | `(tactic| size_fits) => `(tactic| (first | wtm_at "as" | exact Nat.le_of_ble_eq_true rfl))
set_option hygiene false in
local macro_rules | `(tactic| wtm_at "an") => `(tactic| with_reducible (first | exact an_0 ‹_› | exact an_1 ‹_› | exact an_2 ‹_› | exact an_3 ‹_› | exact an_4 ‹_› | exact an_5 ‹_› | exact an_6 ‹_› | exact an_7 ‹_› | exact an_8 ‹_› | exact an_9 ‹_› | exact an_10 ‹_›))
set_option hygiene false in
local macro_rules | `(tactic| wtm_at "memk") => `(tactic| (first | with_reducible exact mem_0 | with_reducible exact mem_1 | with_reducible exact mem_2 | with_reducible exact mem_3 | (with_reducible apply mem_s4; wtm_at "memk")))
set_option hygiene false in
local macro_rules | `(tactic| wtm_at "bef") => `(tactic| (first | (with_reducible apply Bef.here; wtm_at "memk") | (with_reducible apply Bef.there; wtm_at "bef")))
set_option hygiene false in
local macro_rules | `(tactic| k_ne) => `(tactic| (refine neN ?_; (try dsimp only); first | with_reducible assumption | exact Ne.symm (by with_reducible assumption) | exact Nat.ne_of_lt (by with_reducible assumption) | exact Nat.ne_of_gt (by with_reducible assumption) | (refine Inc.ne2 (by with_reducible assumption) ?_; wtm_at "bef") | (refine Inc.ne3 (by with_reducible assumption) ?_; wtm_at "bef") | (refine Nat.ne_of_gt ?_; wtm_at "an") | (refine Nat.ne_of_lt ?_; wtm_at "an") | (refine Nat.ne_of_gt (Nat.lt_succ_of_lt ?_); wtm_at "an") | (refine Nat.ne_of_lt (Nat.lt_succ_of_lt ?_); wtm_at "an") | (refine Nat.ne_of_gt (lt_ss ?_); wtm_at "an") | (refine Nat.ne_of_lt (lt_ss ?_); wtm_at "an") | exact ne_s12 | exact ne_s21 | omega))
set_option hygiene false in
local macro_rules | `(tactic| wtm_at "mm") => `(tactic| (first | wtm_at "memk" | wtm_at "ml"))
set_option hygiene false in
local macro_rules | `(tactic| wtm_at "ml") => `(tactic| (first | wtm_at "as" | (with_reducible apply lift_1; wtm_at "as") | (with_reducible apply lift_2; wtm_at "as") | (with_reducible apply lift_3; wtm_at "as") | (with_reducible apply mem_s4; wtm_at "ml")))
set_option hygiene false in
local macro_rules | `(tactic| wtm_at "mmd") => `(tactic| (first | wtm_at "mm" | wtm_at "mmx"))
set_option hygiene false in
local macro_rules | `(tactic| wtm_at "mmx") => `(tactic| (first | exact mem_0 | (apply mem_s; wtm_at "mmx")))
set_option hygiene false in
local macro_rules | `(tactic| wtm_at "msub") => `(tactic| (first | with_reducible exact sub_0 | with_reducible exact sub_1 | with_reducible exact sub_2 | with_reducible exact sub_3 | (with_reducible apply sub_cons; wtm_at "mm"; wtm_at "msub") | (with_reducible apply sub_s4; wtm_at "msub")))
set_option hygiene false in
local macro_rules | `(tactic| wtm_at "al") => `(tactic| with_reducible (first | assumption | exact al_0 ‹_› | exact al_1 ‹_› | exact al_3 ‹_› | exact al_6 ‹_› | exact al_11 ‹_›))
set_option hygiene false in
local macro_rules | `(tactic| k_all) => `(tactic| first | wtm_at "as" | (with_reducible apply fa_cons; k_ne; k_all) | (apply ne_all; wtm_at "al") | (apply ne_all1; wtm_at "al") | (apply ne_all2; wtm_at "al"))
set_option hygiene false in
local macro_rules | `(tactic| k_upd) => `(tactic| first | (with_reducible apply Upd.head; k_all) | (with_reducible apply Upd.tail; k_ne; k_upd))
set_option hygiene false in
local macro_rules | `(tactic| k_updF) => `(tactic| first | (with_reducible apply UpdF.head; k_all) | (with_reducible apply UpdF.tail; k_ne; k_updF))
set_option hygiene false in
local macro_rules | `(tactic| wtm_at "inc") => `(tactic| (first | wtm_at "as" | (apply Inc.bef; wtm_at "as"; wtm_at "bef") | (apply Nat.le_of_lt; apply Inc.bef; wtm_at "as"; wtm_at "bef") | exact Nat.le_refl _ | (apply Inc.ne2; wtm_at "as"; wtm_at "bef") | (apply Inc.ne3; wtm_at "as"; wtm_at "bef") | wtm_at "an" | exact Nat.le_trans (by wtm_at "as") (by decide) | wtm_at "lo"))
set_option hygiene false in
local macro_rules | `(tactic| walk_at "execs cons") => `(tactic| (k_here; (try dsimp only); (with_reducible refine execs_let ?_); intro qk ek))
set_option hygiene false in
local macro_rules | `(tactic| walk_at "storeName") => `(tactic| (k_here; (try dsimp only); k_dflt (focus refine' storeX_S ?_ ?_ ?_ ?_ ?_; rotate_right 5; k_asm; k_asm; rfl; rfl; k_whole; intro _ _ _ _; (try k_sweep); (try refine (?_ : wpAny _ _ (execs _ _) _ _ _)))))
set_option hygiene false in
local macro_rules | `(tactic| walk_at "eval Constant int") => `(tactic| (k_here; (with_reducible refine cInt ?_)))
set_option hygiene false in
local macro_rules | `(tactic| walk_at "eval Constant str") => `(tactic| (k_here; (with_reducible refine cStr ?_)))
set_option hygiene false in
local macro_rules | `(tactic| walk_at "eval Name") => `(tactic| (k_here; k_dflt (focus refine' nameX_S ?_ ?_ ?_ ?_ ?_ ?_; rotate_right 6; k_asm; rfl; rfl; decide; wtm_at "lk"; k_whole)))
set_option hygiene false in
local macro_rules | `(tactic| walk_at "loadName") => `(tactic| (k_here; k_dflt (focus refine' loadX_S ?_ ?_ ?_ ?_ ?_; rotate_right 5; k_asm; rfl; rfl; wtm_at "lk"; k_whole)))
set_option hygiene false in
local macro_rules | `(tactic| walk_at "call builtin:list.insert") => `(tactic| (k_here; k_dflt (focus refine' ins0 ?_ ?_ ?_ ?_ ?_; rotate_right 5; k_asm; k_asm; k_upd; (focus (simp only [List.length_cons, sizeLine_eq]; wtm_at "lo"))); intro _ _ _))
theorem Mine.Internal.fresh2 : True ∧ True := by
  w_top off
  first | (walk1; fail) | exact ⟨trivial, trivial⟩
section PartCletters
open PySem PySem.W PyProof.Rows PyProof.Rows.LCg
namespace Mine.Internal
set_option hygiene false in
local macro_rules | `(tactic| walk_at "binaryOp FloorDiv int int") => `(tactic| (k_here; refine floordiv_int (by wtm_at "lo") ?_ (Or.inl (PyProof.noPylong_of_log2 (by simp only [Int.natAbs_natCast]; wtm_at "lo")))))
theorem c_letters {w : World} {A₀ : Around} {base h₀ : Heap} {outer : List Env} {dp un : Nat} {gd : Option (List Code)} {env : Env} {L : Addr} {m : Str → Option Value} {news : List (Addr × Obj)} {loose : List Str} {mean : ExcName → Option Value} {mg mb : Str → Option Value} {s0h : Heap} {s0g : Array GenState} {s0d : Drawn} {s0t : Nat} {s0o : OsState} {Q E : Value → Shared → Prop} (n : Nat) (tn : Tok)
  (B : Below A₀ base outer h₀) (F : Fr h₀ L s0h m) (X : (hd.heap_39 w.params).In h₀) (N : News h₀ L s0h news) (T : Top topProg loose mean mg mb h₀) (hf : env.frame = some L) (hke : env.scope.kind = .function) (hdp : dp + 20 < recursionLimit) (hun : un + 200 < cLine) (hn2 : (n : Int) < 2 ^ 120)
  (ret : ∀ nx h' tk' t, Fr h₀ L h' m → News h₀ L h' (nx ++ news) → Q (.str (S (letters n)) t) (Shared.mk h' s0g s0d tk' s0o)) :
  wpAny (model PySem.Challenge.rw_kl0306_01.row.prog w) (aA dp un gd env outer) (call (.ref 234) [.int (n : Int) tn]) Q E (Shared.mk s0h s0g s0d s0t s0o) := by
  have hStop0 : StopAt "exec While Compare cons nil" := trivial
  have hStop1 : StopAt "eval ListComp" := trivial
  revert X; k_fill; intro X
  refine wpAny_call ?_
  k_dflt (refine' code_defC ?k1 ?k2 ?k3 ?k4 ?k5 ?kA ?kF ?kK ?k6 ?k7 ?k8 ?k9 ?kB ?kD ?_ ?c2 ?c3 ?c4; (case kA => exact rfl); (case kF => assumption); (case kK => assumption); (case k1 => k_asm); (case k2 => k_asm); (case k3 => k_asm); (case k4 => k_asm); (case k5 => k_asm); (case k6 => k_is); (case k7 => k_is); (case k8 => first | wtm_at "rm" | (simp only [recursionLimit] at *; wtm_at "lo")); (case k9 => exact BindsTo.of_eq rfl); (case kB => exact rfl); (case kD => decide +kernel); (case c2 => exact rfl); (case c3 => exact rfl); (case c4 => exact rfl); k_whole; intro g' L' h' tk' cells' FG' F' N' Y' B' X' T' l1; (show (let zG : Prop := _; zG)); intro zG; k_cells Y'; (try simp only [List.cons_append, List.nil_append] at N'); (try k_unmd); k_unfold; (try dsimp only); (try k_unmd); (try k_fold); (show (let zA := _; let ze := _; wpAny _ zA (execs _ ze) _ _ _)); intro zA ze; (try k_unmd))
  k_steps
  rename_i o' d1 _ _ _ _ l' hX l2 h2 t2 FA NA
  replace d1 : o'.data = .cell (some (.int n tn)) := d1.trans (by kernel_rfl)
  replace FA : Fr g' L' h2 (fun y => if y = Str.ofString "powers" then some (.ref l') else none) := by
    refine cast (congrArg (Fr g' L' h2) ?_) FA
    kernel_rfl
  refine stop_in ?_
  refine (fun (zk : ∀ (J0 : Nat → (Str → Option Value) → List (Addr × Obj) → Prop), (∀ (k : Nat) (m₁ : Str → Option Value) (nx : List (Addr × Obj)) (t : Tok) (rest : List Value) (j e : Nat), (k = 200 - j) → (m₁ = (fun y => if y = Str.ofString "powers" then some (.ref l') else none)) → (nx = (l', W.listOf (Value.int (16 ^ j) t :: rest).toArray e) :: (L' + 1, o') :: news) → (IntsAre (Value.int (16 ^ j) t :: rest) (pows j)) → (rest.length = j) → (((16 : Int) ^ j ≤ n ∨ j = 0)) → (j ≤ 40) → J0 k m₁ nx) → (∀ (k : Nat) (m₁ : Str → Option Value) (nx : List (Addr × Obj)) (zG : Prop), (∀ (t : Tok) (rest : List Value) (j e : Nat), (k = 200 - j) → (m₁ = (fun y => if y = Str.ofString "powers" then some (.ref l') else none)) → (nx = (l', W.listOf (Value.int (16 ^ j) t :: rest).toArray e) :: (L' + 1, o') :: news) → (IntsAre (Value.int (16 ^ j) t :: rest) (pows j)) → (rest.length = j) → (((16 : Int) ^ j ≤ n ∨ j = 0)) → (j ≤ 40) → zG) → J0 k m₁ nx → zG) → _) => zk (fun k m₁ nx => ∀ zG : Prop, (∀ (t : Tok) (rest : List Value) (j e : Nat), (k = 200 - j) → (m₁ = (fun y => if y = Str.ofString "powers" then some (.ref l') else none)) → (nx = (l', W.listOf (Value.int (16 ^ j) t :: rest).toArray e) :: (L' + 1, o') :: news) → (IntsAre (Value.int (16 ^ j) t :: rest) (pows j)) → (rest.length = j) → (((16 : Int) ^ j ≤ n ∨ j = 0)) → (j ≤ 40) → zG) → zG) (fun k m₁ nx t rest j e zh0 zh1 zh2 zh3 zh4 zh5 zh6 _ zk => zk t rest j e zh0 zh1 zh2 zh3 zh4 zh5 zh6) (fun k m₁ nx zG zk zh => zh zG zk)) ?_; intro J0 J0mk J0el
  refine while_S J0 200 FA NA (J0mk _ _ _ tk' [] 0 0 rfl rfl rfl (.cons _ _ .nil) rfl (Or.inr rfl) (by wtm_at "lo")) ?_
  intro k m₁ nx h₁ tk₁ JJ
  refine J0el _ _ _ _ ?_ JJ
  clear JJ
  rintro t rest j e rfl rfl rfl hI hr hj hj2 F₁ N₁
  clear FA NA
  try k_fold
  k_steps
  · rename Fr _ _ _ _ => FI
    rename News _ _ _ _ => NI
    rename (@LE.le Int _ _ _) => hle
    have hj3 := pow16_lt hle hn2
    exact whlEnd_mk (n' := 200 - (j + 1)) FI NI (by wtm_at "lo") (J0mk _ _ _ _ _ (j + 1) (e + 1) rfl rfl (by rw [Int.pow_succ]) (by rw [Int.pow_succ]; exact .cons _ _ hI) (by rw [List.length_cons, hr]) (.inl (by rw [Int.pow_succ]; exact hle)) (by wtm_at "lo"))
  rename (¬ (@LE.le Int _ _ _)) => hgt
  refine stop_in ?_
  refine my_ListComp (GB := fun g => s0g = g) (L := L') (h₀ := g') (m := fun y => if y = Str.ofString "powers" then some (.ref l') else none) (cl := [(Str.ofString "number", L' + 1)]) (by with_unfolding_all rfl) (by decide) (by rfl) (by decide) ?_
  k_steps
  refine iter_list rfl ⟨_, (N₁ _ (.head _)).1, rfl, _, rfl⟩ F₁ N₁ ?_
  intro I h2 hltI K
  refine (fun (zk : ∀ (J : Nat → List Value → List (Addr × Obj) → Prop), (∀ (i : Nat) (ys : List Value) (nw : List (Addr × Obj)) , (nw = (l', W.listOf (Value.int (16 ^ j) t :: rest).toArray e) :: (L' + 1, o') :: news) → (StrsAre ys (((hexD j n).take i).map fun c => S [c])) → J i ys nw) → (∀ (i : Nat) (ys : List Value) (nw : List (Addr × Obj)) (zG : Prop), ((nw = (l', W.listOf (Value.int (16 ^ j) t :: rest).toArray e) :: (L' + 1, o') :: news) → (StrsAre ys (((hexD j n).take i).map fun c => S [c])) → zG) → J i ys nw → zG) → _) => zk (fun i ys nw => ∀ zG : Prop, ((nw = (l', W.listOf (Value.int (16 ^ j) t :: rest).toArray e) :: (L' + 1, o') :: news) → (StrsAre ys (((hexD j n).take i).map fun c => S [c])) → zG) → zG) (fun i ys nw  zh0 zh1 _ zk => zk  zh0 zh1) (fun i ys nw zG zk zh => zh zG zk)) ?_; intro J Jmk Jel
  refine compAt_S J K (by simp only [List.size_toArray, List.length_cons, sizeLine_eq]; wtm_at "lo")
    (fun ys => stable_list (fun i nw h => by refine Jel _ _ _ _ ?_ h; rintro rfl -; exact .inr ⟨_, .head _, rfl, _, rfl⟩)) (Jmk _ _ _ rfl .nil) ?_ ?_
  · rintro i v ys nw oI C oC D mC h3 tk3 E' hi hP JJ
    refine Jel _ _ _ _ ?_ JJ
    clear JJ
    rintro rfl hys hoC F3 N3 hoff hne -
    have hij : i ≤ j := by simp only [List.size_toArray, List.length_cons] at hi; wtm_at "lo"
    obtain ⟨t', hv⟩ := hI.get i _ (pows_get j i hij)
    have hv2 : v = .int (16 ^ (j - i)) t' := by
      have hP' : (Value.int (16 ^ j) t :: rest)[i]? = some v := by simpa using hP
      rw [hv] at hP'; exact (Option.some.inj hP').symm
    subst hv2
    have ho := hoff.mem
    refine turn_name (by decide) rfl F3 hoC N3 hne.1 (fun p hp => ?_) ?_
    · rcases List.mem_cons.mp hp with rfl | hp
      · exact Ne.symm hne.2.2
      · exact (ho p hp).2.1
    intro h4 oC4 mC4 F4 hoC4 hx4 N4
    have hp : ∃ p : Nat, p = 16 ^ (j - i) ∧ 0 < p := ⟨_, rfl, Nat.pow_pos (by decide)⟩
    show (let zG : Prop := _; zG)
    intro zG
    obtain ⟨p, hp, hp0⟩ := hp
    have hpi : (16 : Int) ^ (j - i) = (p : Int) := by rw [hp, Int.natCast_pow]; rfl
    rw [hpi] at hx4
    have hlog : p.log2 ≤ 160 := by rw [hp, pow16, Nat.log2_two_pow]; wtm_at "lo"
    have hq : Int.fmod (Int.fdiv (n : Int) (p : Int)) 16 = ((n / p % 16 : Nat) : Int) := by
      rw [Int.fdiv_eq_ediv_of_nonneg _ (by wtm_at "lo"), Int.fmod_eq_emod_of_nonneg _ (by wtm_at "lo")]; rfl
    clear hv hP hpi
    (try k_unmd); k_unfold
    k_steps
    rename News _ _ _ _ => N5
    rename Fr _ _ _ _ => F5
    refine turnEnd_mk F5 hoC4 N5 hoff (Jmk _ _ _ rfl ?_)
    have e1 : (hexD j n).take (i + 1) = (hexD j n).take i ++ [65 + n / p % 16] := by
      rw [List.take_add_one, hexD_get j n i hij, hp]; rfl
    have e2 : (65 + ((n / p % 16 : Nat) : Int)).toNat = 65 + n / p % 16 := by wtm_at "lo"
    rw [e1, List.map_append, hq, e2]
    exact strs_snoc hys _ _
  · rintro D C h3 tk3 m3 ys nw F3 N3 o1 hn3 hC0 hD0 hCL hDL hCD offC hJ
    refine Jel _ _ _ _ ?_ hJ
    clear hJ
    rintro rfl hys
    intro h4 hs4
    obtain ⟨F4, N4⟩ := fin_E' F3 N3 hC0 hCL hCD offC hs4
    try k_fold
    k_steps
    have hall : (hexD j n).take (Value.int (16 ^ j) t :: rest).toArray.size = hexD j n := by
      rw [List.take_of_length_le]; rw [hexD_length, List.size_toArray, List.length_cons, hr]; exact Nat.le_refl _
    rw [hall] at hys
    refine join_list (D := D) (items := ys.toArray) (ys := (hexD j n).map fun c => S [c]) ⟨_, (N4 _ (.head _)).1, rfl, _, rfl⟩ (by simpa using hys) ?_ (fun t' k => ?_)
    · rw [len1, hexD_length, List.length_map, hexD_length]
      show j + 1 + (j + 1) * 0 ≤ 16777216
      wtm_at "lo"
    k_steps
    rename News _ _ _ _ => N5
    rename Fr _ _ _ _ => F5
    have hfin : letters n = hexD j n := by
      refine letters_of ?_ ?_
      · rcases hj with h | h
        · left; have : ((16 ^ j : Nat) : Int) ≤ (n : Int) := by rw [Int.natCast_pow]; exact h
          wtm_at "lo"
        · exact .inr h
      · have h1 : ((16 ^ j : Nat) : Int) = (16 : Int) ^ j := by rw [Int.natCast_pow]; rfl
        rw [Nat.pow_succ]; wtm_at "lo"
    rw [join1, ← hfin]
    exact ret [_, _, _] _ _ _ F5 N5
end Mine.Internal
end PartCletters
theorem Mine.Internal.fresh3 : True ∧ True := by
  w_top off
  first | (walk1; fail) | exact ⟨trivial, trivial⟩
section PartCint2ap
open PySem PySem.W PyProof.Rows PyProof.Rows.LCg
namespace Mine.Internal
set_option hygiene false in
local macro_rules | `(tactic| walk_at "binaryOp Add bytes bytes") => `(tactic| (k_here; refine KBa.add_K rfl rfl ?_ ?_; (rotate_left; intro _ _ _)))
noncomputable abbrev Bt (l : List Nat) : Array UInt8 := (l.map fun c => UInt8.ofNat c).toArray
noncomputable def lowD : Nat → Nat → List Nat
  | 0, _ => []
  | k + 1, n => hexD k n
noncomputable def word (n : Nat) : List Nat := if n = 0 then [] else letters n
theorem pick16 : ∀ r : Fin 16, KBy.picked #[65, 66, 67, 68, 69, 70, 71, 72, 73, 74, 75, 76, 77, 78, 79, 80] (some ((r.val : Nat) : Int)) (some (((r.val : Nat) : Int) + 1)) = Bt [65 + r.val] := by decide +kernel
theorem Bt_append (a b : List Nat) : Bt a ++ Bt b = Bt (a ++ b) := by simp [Bt]
theorem hexD_snoc : ∀ i n, lowD (i + 1) n = (65 + n / 16 ^ i % 16) :: lowD i n
  | 0, n => by simp [lowD, hexD_0]
  | i + 1, n => rfl
theorem lowD_len : ∀ i n, (lowD i n).length = i
  | 0, _ => rfl
  | i + 1, n => hexD_length i n
theorem word_of {n i : Nat} (h : 0 = n / 16 ^ i) (hlo : i = 0 ∨ 16 ^ (i - 1) ≤ n) : lowD i n = word n := by
  have hp : 0 < 16 ^ i := Nat.pow_pos (by decide)
  have h2 : n < 16 ^ i := by
    refine Nat.lt_of_not_le fun hh => ?_
    have := Nat.div_pos hh hp
    wtm_at "lo"
  cases i with
  | zero =>
    have : n = 0 := by simpa using h2
    subst this; rfl
  | succ j =>
    have h3 : 16 ^ j ≤ n := by simpa using hlo
    have h4 : 0 < 16 ^ j := Nat.pow_pos (by decide)
    unfold word
    rw [if_neg (by wtm_at "lo")]
    exact (letters_of (.inl h3) h2).symm
theorem c_int2ap {w : World} {A₀ : Around} {base h₀ : Heap} {outer : List Env} {dp un : Nat} {gd : Option (List Code)} {env : Env} {L : Addr} {m : Str → Option Value} {news : List (Addr × Obj)} {loose : List Str} {mean : ExcName → Option Value} {mg mb : Str → Option Value} {s0h : Heap} {s0g : Array GenState} {s0d : Drawn} {s0t : Nat} {s0o : OsState} {Q E : Value → Shared → Prop} (n : Int) (a0 : Nat) (tn : Tok)
  (B : Below A₀ base outer h₀) (F : Fr h₀ L s0h m) (X : (hd.heap_39 w.params).In h₀) (N : News h₀ L s0h news) (T : Top topProg loose mean mg mb h₀) (hf : env.frame = some L) (hke : env.scope.kind = .function) (hdp : dp + 20 < recursionLimit) (hun : un + 200 < cLine) (hN : n.natAbs = a0) (hn2 : a0 < 2 ^ 120)
  (ret : ∀ nx h' tk' t, Fr h₀ L h' m → News h₀ L h' (nx ++ news) → Q (.bytes (Bt (word a0)) t) (Shared.mk h' s0g s0d tk' s0o)) :
  wpAny (model PySem.Challenge.rw_kl0306_01.row.prog w) (aA dp un gd env outer) (call (.ref 45) [.int n tn]) Q E (Shared.mk s0h s0g s0d s0t s0o) := by
  have hStop0 : StopAt "exec While Name cons nil" := trivial
  revert X; k_fill; intro X
  refine wpAny_call ?_
  k_dflt (refine' code_def ?k1 ?k2 ?k3 ?k4 ?k5 ?kA ?kF ?kK ?k6 ?k7 ?k8 ?k9 ?kB ?_ ?c2 ?c3 ?c4 ?c5; (case kA => exact rfl); (case kF => assumption); (case kK => assumption); (case k1 => k_asm); (case k2 => k_asm); (case k3 => k_asm); (case k4 => k_asm); (case k5 => k_asm); (case k6 => k_is); (case k7 => k_is); (case k8 => first | wtm_at "rm" | (simp only [recursionLimit] at *; wtm_at "lo")); (case k9 => exact BindsTo.of_eq rfl); (case c5 => decide); (case kB => exact locs rfl); (case c2 => exact rfl); (case c3 => exact rfl); (case c4 => exact rfl); k_whole; intro g' L' h' FG' F' N' B' X' T'; (try dsimp only); (try k_unmd); (try k_fold); (show (let zA := _; let ze := _; wpAny _ zA (execs _ ze) _ _ _)); intro zA ze; (try (refine gen_tok ?_; intro t1')); (show (let zG : Prop := _; zG)); intro zG; have F1' := F'; clear F'; obtain ⟨m1', F', em_num⟩ : ∃ m1 : Str → Option Value, Fr g' L' h' m1 ∧ m1 (Str.ofString "num") = some (.int n tn) := ⟨_, F1', by rfl⟩; clear F1'; (try k_unmd); k_unfold; (try k_unmd))
  k_steps
  rename Fr _ _ _ _ => FA
  rename News _ _ _ _ => NA
  refine stop_in ?_
  refine (fun (zk : ∀ (J0 : Nat → (Str → Option Value) → List (Addr × Obj) → Prop), (∀ (k : Nat) (m₁ : Str → Option Value) (nx : List (Addr × Obj)) (q i : Nat) (t1 t2 t3 : Tok), (k = q) → (news = nx) → (m₁ (Str.ofString "num") = some (.int q t1)) → (m₁ (Str.ofString "val") = some (.bytes (Bt (lowD i a0)) t2)) → (m₁ (Str.ofString "AP") = some (.bytes #[65, 66, 67, 68, 69, 70, 71, 72, 73, 74, 75, 76, 77, 78, 79, 80] t3)) → (i ≤ 40) → (q = a0 / 16 ^ i) → ((i = 0 ∨ 16 ^ (i - 1) ≤ a0)) → J0 k m₁ nx) → (∀ (k : Nat) (m₁ : Str → Option Value) (nx : List (Addr × Obj)) (zG : Prop), (∀ (q i : Nat) (t1 t2 t3 : Tok), (k = q) → (news = nx) → (m₁ (Str.ofString "num") = some (.int q t1)) → (m₁ (Str.ofString "val") = some (.bytes (Bt (lowD i a0)) t2)) → (m₁ (Str.ofString "AP") = some (.bytes #[65, 66, 67, 68, 69, 70, 71, 72, 73, 74, 75, 76, 77, 78, 79, 80] t3)) → (i ≤ 40) → (q = a0 / 16 ^ i) → ((i = 0 ∨ 16 ^ (i - 1) ≤ a0)) → zG) → J0 k m₁ nx → zG) → _) => zk (fun k m₁ nx => ∀ zG : Prop, (∀ (q i : Nat) (t1 t2 t3 : Tok), (k = q) → (news = nx) → (m₁ (Str.ofString "num") = some (.int q t1)) → (m₁ (Str.ofString "val") = some (.bytes (Bt (lowD i a0)) t2)) → (m₁ (Str.ofString "AP") = some (.bytes #[65, 66, 67, 68, 69, 70, 71, 72, 73, 74, 75, 76, 77, 78, 79, 80] t3)) → (i ≤ 40) → (q = a0 / 16 ^ i) → ((i = 0 ∨ 16 ^ (i - 1) ≤ a0)) → zG) → zG) (fun k m₁ nx q i t1 t2 t3 zh0 zh1 zh2 zh3 zh4 zh5 zh6 zh7 _ zk => zk q i t1 t2 t3 zh0 zh1 zh2 zh3 zh4 zh5 zh6 zh7) (fun k m₁ nx zG zk zh => zh zG zk)) ?_; intro J0 J0mk J0el
  refine while_S J0 a0 FA NA ?_ ?_
  · have hz : (if n < 0 then -n else n) = (a0 : Int) := by split <;> wtm_at "lo"
    refine' J0mk _ _ _ a0 0 _ _ _ rfl rfl ?e1 ?e2 ?e3 (by wtm_at "lo") (by simp) (.inl rfl)
    case e1 => (rw [← hz]; ((try dsimp only); (repeat (first | exact if_pos rfl | with_reducible assumption | (refine (if_neg ?_).trans ?_; focus decide))); try rfl))
    case e2 => (((try dsimp only); (repeat (first | exact if_pos rfl | with_reducible assumption | (refine (if_neg ?_).trans ?_; focus decide))); try rfl))
    case e3 => (((try dsimp only); (repeat (first | exact if_pos rfl | with_reducible assumption | (refine (if_neg ?_).trans ?_; focus decide))); try rfl))
  intro k m₁ nx h₁ tk₁ JJ
  refine J0el _ _ _ _ ?_ JJ
  clear JJ
  rintro q i t1 t2 t3 rfl rfl e1 e2 e3 hi hq hlo F₁ N₁
  clear FA NA
  have hm1 : Int.fdiv (k : Int) 16 = ((k / 16 : Nat) : Int) := by rw [Int.fdiv_eq_ediv_of_nonneg _ (by wtm_at "lo")]; rfl
  have hm2 : Int.fmod (k : Int) 16 = ((k % 16 : Nat) : Int) := by rw [Int.fmod_eq_emod_of_nonneg _ (by wtm_at "lo")]; rfl
  k_steps
  · rename Fr _ _ _ _ => FC
    rename News _ _ _ _ => NC
    refine KBc.slice_K (s := ⟨_, _, _, _, _⟩) FC NC rfl (by constructor) (by constructor) (by decide) ?_
    intro h3 t4 k4 F3 N3 _
    rw [hm1] at F3
    rw [hm2] at F3 ⊢
    rw [pick16 ⟨k % 16, by wtm_at "lo"⟩]
    k_steps
    · rename News _ _ _ _ => N5
      rename Fr _ _ _ _ => F5
      have hk0 : k ≠ 0 := by wtm_at "lo"
      have hle : 16 ^ i ≤ a0 := by
        refine Nat.le_of_not_lt fun hh => hk0 ?_
        rw [hq, Nat.div_eq_of_lt hh]
      have hi3 : i < 30 := by
        refine Nat.lt_of_not_le fun hj => ?_
        have h1 : (16 : Nat) ^ 30 ≤ 16 ^ i := Nat.pow_le_pow_right (by decide) hj
        have h3 : (16 : Nat) ^ 30 = 2 ^ 120 := by decide +kernel
        wtm_at "lo"
      refine' whlEnd_mk (n' := k / 16) F5 (drop1 N5) (by wtm_at "lo") (J0mk _ _ _ (k / 16) (i + 1) _ _ _ rfl rfl ?e1 ?e2 ?e3 (by wtm_at "lo") ?e4 (.inr hle))
      case e1 => ((try dsimp only); (repeat (first | exact if_pos rfl | with_reducible assumption | (refine (if_neg ?_).trans ?_; focus decide))); try rfl)
      case e2 =>
        (try dsimp only)
        rw [Bt_append, hq]
        show _ = some (Value.bytes (Bt (lowD (i + 1) a0)) _)
        rw [hexD_snoc]
        ((try dsimp only); (repeat (first | exact if_pos rfl | with_reducible assumption | (refine (if_neg ?_).trans ?_; focus decide))); try rfl)
      case e3 => ((try dsimp only); (repeat (first | exact if_pos rfl | with_reducible assumption | (refine (if_neg ?_).trans ?_; focus decide))); try rfl)
      case e4 => rw [hq, Nat.pow_succ, Nat.div_div_eq_div_mul]
    · simp only [KBw.ints_length, Bt, List.size_toArray, List.length_map, List.length_cons, List.length_nil, lowD_len]
      wtm_at "lo"
  · have : k = 0 := by wtm_at "lo"
    subst this
    rw [word_of hq hlo]
    refine ret [] _ _ _ (by assumption) (by assumption)
end Mine.Internal
end PartCint2ap
theorem Mine.Internal.fresh4 : True ∧ True := by
  w_top off
  first | (walk1; fail) | exact ⟨trivial, trivial⟩
section PartCword
open PySem PySem.W PyProof.Rows PyProof.Rows.LCg
namespace Mine.Internal
theorem word_len {n : Nat} (h : n < 2 ^ 120) : (word n).length ≤ 31 := by
  unfold word
  split
  · simp
  · rw [letters, hexD_length]
    have : n.log2 < 120 := (Nat.log2_lt (by assumption)).mpr h
    wtm_at "lo"
theorem word_small {n c : Nat} (h : c ∈ word n) : c < 256 := by
  have aux : ∀ k, c ∈ hexD k n → c < 256 := by
    intro k
    induction k with
    | zero => intro h; simp [hexD_0] at h; wtm_at "lo"
    | succ k ih =>
      intro h
      rw [hexD_c] at h
      rcases List.mem_cons.mp h with rfl | h
      · wtm_at "lo"
      · exact ih h
  unfold word at h
  split at h
  · cases h
  · exact aux _ h
theorem c_word {w : World} {A₀ : Around} {base h₀ : Heap} {outer : List Env} {dp un : Nat} {gd : Option (List Code)} {env : Env} {L : Addr} {m : Str → Option Value} {news : List (Addr × Obj)} {loose : List Str} {mean : ExcName → Option Value} {mg mb : Str → Option Value} {s0h : Heap} {s0g : Array GenState} {s0d : Drawn} {s0t : Nat} {s0o : OsState} {Q E : Value → Shared → Prop} (n : Int) (a0 : Nat) (tn : Tok)
  (B : Below A₀ base outer h₀) (F : Fr h₀ L s0h m) (X : (hd.heap_39 w.params).In h₀) (N : News h₀ L s0h news) (T : Top topProg loose mean mg mb h₀) (hf : env.frame = some L) (hke : env.scope.kind = .function) (hdp : dp + 24 < recursionLimit) (hun : un + 300 < cLine) (hN : n.natAbs = a0) (hn2 : a0 < 2 ^ 120)
  (ret : ∀ nx h' tk' t, Fr h₀ L h' m → News h₀ L h' (nx ++ news) → Q (.str (S (word a0)) t) (Shared.mk h' s0g s0d tk' s0o)) :
  wpAny (model PySem.Challenge.rw_kl0306_01.row.prog w) (aA dp un gd env outer) (call (.ref 229) [.int n tn]) Q E (Shared.mk s0h s0g s0d s0t s0o) := by
  have hStop0 : StopAt "eval ListComp" := trivial
  have hStop1 : StopAt "call ref" := trivial
  revert X; k_fill; intro X
  refine wpAny_call ?_
  k_dflt (refine' code_def ?k1 ?k2 ?k3 ?k4 ?k5 ?kA ?kF ?kK ?k6 ?k7 ?k8 ?k9 ?kB ?_ ?c2 ?c3 ?c4 ?c5; (case kA => exact rfl); (case kF => assumption); (case kK => assumption); (case k1 => k_asm); (case k2 => k_asm); (case k3 => k_asm); (case k4 => k_asm); (case k5 => k_asm); (case k6 => k_is); (case k7 => k_is); (case k8 => first | wtm_at "rm" | (simp only [recursionLimit] at *; wtm_at "lo")); (case k9 => exact BindsTo.of_eq rfl); (case c5 => decide); (case kB => exact locs rfl); (case c2 => exact rfl); (case c3 => exact rfl); (case c4 => exact rfl); k_whole; intro g' L' h' FG' F' N' B' X' T'; (try dsimp only); (try k_unmd); (try k_fold); (show (let zA := _; let ze := _; wpAny _ zA (execs _ ze) _ _ _)); intro zA ze; (try (refine gen_tok ?_; intro t1')); (show (let zG : Prop := _; zG)); intro zG; have F1' := F'; clear F'; obtain ⟨m1', F', em_number⟩ : ∃ m1 : Str → Option Value, Fr g' L' h' m1 ∧ m1 (Str.ofString "number") = some (.int n tn) := ⟨_, F1', by rfl⟩; clear F1'; (try k_unmd); k_unfold; (try k_unmd))
  k_steps
  rename Fr _ _ _ _ => FA
  rename News _ _ _ _ => NA
  refine stop_in ?_
  refine my_ListComp' FA (GB := fun g => s0g = g) (cl := []) (by with_unfolding_all rfl) (by decide) (by rfl) (by decide) ?_
  k_steps
  refine stop_in ?_
  rename Fr _ _ _ _ => FA; rename News _ _ _ _ => NA; refine' c_int2ap n a0 tn (h₀ := g') (L := L') B' FA X' NA T' ?uhf ?uhke ?uhdp ?uhun (hN) (hn2) ?uret; (case uhf => exact rfl); (case uhke => exact rfl); (case uhdp => (first | assumption | wtm_at "rm" | (simp only [depth_under_make, depth_under_kw, depth_in1, depth_deeper, recursionLimit] at *; wtm_at "lo") | wtm_at "lo")); (case uhun => (first | assumption | wtm_at "rm" | (have hcL9 := cLine_is; simp only [units_in1, units_deeper, Around.mark_units] at *; wtm_at "lo"))); clear FA NA
  intro nx h2 tk2 t2 F2 N2
  k_steps
  refine iter_bytes rfl F2 N2 ?_
  intro I h3 St hSt K
  refine (fun (zk : ∀ (J : Nat → List Value → List (Addr × Obj) → Prop), (∀ (i : Nat) (ys : List Value) (nw : List (Addr × Obj)) , (nw = nx ++ news) → (StrsAre ys (((word a0).take i).map fun c => S [c])) → J i ys nw) → (∀ (i : Nat) (ys : List Value) (nw : List (Addr × Obj)) (zG : Prop), ((nw = nx ++ news) → (StrsAre ys (((word a0).take i).map fun c => S [c])) → zG) → J i ys nw → zG) → _) => zk (fun i ys nw => ∀ zG : Prop, ((nw = nx ++ news) → (StrsAre ys (((word a0).take i).map fun c => S [c])) → zG) → zG) (fun i ys nw  zh0 zh1 _ zk => zk  zh0 zh1) (fun i ys nw zG zk zh => zh zG zk)) ?_; intro J Jmk Jel
  refine compAt_S J K (by simp only [Bt, List.size_toArray, List.length_map, sizeLine_eq]; have := word_len hn2; wtm_at "lo")
    (fun ys => stable_local hSt) (Jmk _ _ _ rfl .nil) ?_ ?_
  · rintro i v ys nw oI C oC D mC h3 tk3 E' hi hP JJ
    refine Jel _ _ _ _ ?_ JJ
    clear JJ
    rintro rfl hys hoC F3 N3 hoff hne -
    show (let zG : Prop := _; zG)
    intro zG
    obtain ⟨c, u, hc, rfl⟩ := hP
    obtain ⟨d, hd1, hd2, hd3⟩ : ∃ d, (word a0)[i]? = some d ∧ c.toNat = d ∧ d < 256 := by
      simp only [Bt, List.getElem?_toArray, List.getElem?_map] at hc
      cases hd : (word a0)[i]? with
      | none => rw [hd] at hc; cases hc
      | some d =>
        rw [hd] at hc
        have hc' : UInt8.ofNat d = c := Option.some.inj hc
        have hlt := word_small (List.mem_of_getElem? hd)
        exact ⟨d, rfl, by rw [← hc', UInt8.toNat_ofNat']; exact Nat.mod_eq_of_lt hlt, hlt⟩
    (try k_unmd); k_unfold
    rw [hd2]
    clear hd2 hc
    have ho := hoff.mem
    refine turn_name (by decide) rfl F3 hoC N3 hne.1 (fun p hp => ?_) ?_
    · rcases List.mem_cons.mp hp with rfl | hp
      · exact Ne.symm hne.2.2
      · exact (ho p hp).2.1
    intro h4 oC4 mC4 F4 hoC4 hx4 N4
    k_steps
    rename News _ _ _ _ => N5
    rename Fr _ _ _ _ => F5
    refine turnEnd_mk F5 hoC4 N5 hoff (Jmk _ _ _ rfl ?_)
    have e1 : (word a0).take (i + 1) = (word a0).take i ++ [d] := by
      rw [List.take_add_one, hd1]; rfl
    rw [e1, List.map_append]
    exact strs_snoc hys _ _
  · rintro D C h3 tk3 m3 ys nw F3 N3 o1 hn3 hC0 hD0 hCL hDL hCD offC hJ
    refine Jel _ _ _ _ ?_ hJ
    clear hJ
    rintro rfl hys
    intro h4 hs4
    obtain ⟨F4, N4⟩ := fin_E' F3 N3 hC0 hCL hCD offC hs4
    try k_fold
    k_steps
    have hall : (word a0).take (Bt (word a0)).size = word a0 := by
      rw [List.take_of_length_le]; simp [Bt]
    rw [hall] at hys
    refine join_list (D := D) (items := ys.toArray) (ys := (word a0).map fun c => S [c]) ⟨_, (N4 _ (.head _)).1, rfl, _, rfl⟩ (by simpa using hys) ?_ (fun t' k => ?_)
    · rw [len1, List.length_map]
      have := word_len hn2
      show _ + _ * 0 ≤ 16777216
      wtm_at "lo"
    k_steps
    rename News _ _ _ _ => N5
    rename Fr _ _ _ _ => F5
    rw [join1]
    exact ret (_ :: nx) _ _ _ F5 N5
end Mine.Internal
end PartCword
theorem Mine.Internal.fresh5 : True ∧ True := by
  w_top off
  first | (walk1; fail) | exact ⟨trivial, trivial⟩
section PartCprimes
open PySem PySem.W PyProof.Rows PyProof.Rows.LCg
namespace Mine.Internal
theorem c_primes {w : World} {A₀ : Around} {base h₀ : Heap} {outer : List Env} {dp un : Nat} {gd : Option (List Code)} {env : Env} {L : Addr} {m : Str → Option Value} {news : List (Addr × Obj)} {loose : List Str} {mean : ExcName → Option Value} {mg mb : Str → Option Value} {s0h : Heap} {s0g : Array GenState} {s0d : Drawn} {s0t : Nat} {s0o : OsState} {Q E : Value → Shared → Prop}
  (B : Below A₀ base outer h₀) (F : Fr h₀ L s0h m) (X : (hd.heap_39 w.params).In h₀) (N : News h₀ L s0h news) (T : Top topProg loose mean mg mb h₀) (hf : env.frame = some L) (hke : env.scope.kind = .function) (hdp : dp + 24 < recursionLimit) (hun : un + 300 < cLine)
  (ret : ∀ D vs h' tk', Fr h₀ L h' m → News h₀ L h' ((D, tup vs) :: news) → (∀ p ∈ news, p.1 < D) → IntsAre vs primesI → Q (.ref D) (Shared.mk h' s0g s0d tk' s0o))
  :
  wpAny (model PySem.Challenge.rw_kl0306_01.row.prog w) (aA dp un gd env outer) (call (.ref 241) []) Q E (Shared.mk s0h s0g s0d s0t s0o) := by
  have hStop0 : StopAt "eval ListComp" := trivial
  have hStop1 : StopAt "call ref" := trivial
  revert X; k_fill; intro X
  refine wpAny_call ?_
  k_dflt (refine' code_def ?k1 ?k2 ?k3 ?k4 ?k5 ?kA ?kF ?kK ?k6 ?k7 ?k8 ?k9 ?kB ?_ ?c2 ?c3 ?c4 ?c5; (case kA => exact rfl); (case kF => assumption); (case kK => assumption); (case k1 => k_asm); (case k2 => k_asm); (case k3 => k_asm); (case k4 => k_asm); (case k5 => k_asm); (case k6 => k_is); (case k7 => k_is); (case k8 => first | wtm_at "rm" | (simp only [recursionLimit] at *; wtm_at "lo")); (case k9 => exact BindsTo.of_eq rfl); (case c5 => decide); (case kB => exact locs rfl); (case c2 => exact rfl); (case c3 => exact rfl); (case c4 => exact rfl); k_whole; intro g' L' h' FG' F' N' B' X' T'; (try dsimp only); (try k_unmd); (try k_fold); (show (let zA := _; let ze := _; wpAny _ zA (execs _ ze) _ _ _)); intro zA ze; (try (refine gen_tok ?_; intro t1')); (try k_unmd))
  k_steps
  rename Fr _ _ _ _ => F5
  rename News _ _ _ _ => N5
  rename (∀ p : Addr × Obj, p ∈ news → p.1 < _) => l5
  refine ret _ _ _ _ F5 N5 l5 ?_
  repeat (first | exact .nil | refine .cons _ _ ?_)
end Mine.Internal
end PartCprimes
theorem Mine.Internal.fresh6 : True ∧ True := by
  w_top off
  first | (walk1; fail) | exact ⟨trivial, trivial⟩
section PartCspelled
open PySem PySem.W PyProof.Rows PyProof.Rows.LCg
namespace Mine.Internal
theorem item4 (d : Nat) : Txt.item (Str.ofString " \n\t\r") (Int.fmod (Int.fdiv (d : Int) 3) 4) = S (wsOf d) := by
  have h1 : Int.fmod (Int.fdiv (d : Int) 3) 4 = ((d / 3 % 4 : Nat) : Int) := by
    rw [Int.fdiv_eq_ediv_of_nonneg _ (by decide), Int.fmod_eq_emod_of_nonneg _ (by decide)]; rfl
  rw [h1]
  unfold wsOf
  have h2 : d / 3 % 4 < 4 := Nat.mod_lt _ (by decide)
  revert h2
  generalize d / 3 % 4 = r
  revert r
  decide +kernel
theorem flat_len (l : List Nat) : (l.flatMap (fun c => [92, c])).length = 2 * l.length := by
  induction l with
  | nil => rfl
  | cons a r ih => rw [List.flatMap_cons, List.length_append, ih]; simp; wtm_at "lo"
theorem sum2 (l : List Nat) : (l.map ((fun x : Str => x.length) ∘ fun c => S [92, c])).sum = 2 * l.length := by
  induction l with
  | nil => rfl
  | cons a r ih => rw [List.map_cons, List.sum_cons, ih]; show 2 + _ = _; rw [List.length_cons]; wtm_at "lo"
theorem c_spelled {w : World} {A₀ : Around} {base h₀ : Heap} {outer : List Env} {dp un : Nat} {gd : Option (List Code)} {env : Env} {L : Addr} {m : Str → Option Value} {news : List (Addr × Obj)} {loose : List Str} {mean : ExcName → Option Value} {mg mb : Str → Option Value} {s0h : Heap} {s0g : Array GenState} {s0d : Drawn} {s0t : Nat} {s0o : OsState} {Q E : Value → Shared → Prop} (l : List Nat) (d : Nat) (t1 t2 : Tok)
  (B : Below A₀ base outer h₀) (F : Fr h₀ L s0h m) (X : (hd.heap_39 w.params).In h₀) (N : News h₀ L s0h news) (T : Top topProg loose mean mg mb h₀) (hf : env.frame = some L) (hke : env.scope.kind = .function) (hdp : dp + 24 < recursionLimit) (hun : un + 300 < cLine) (hl : l.length ≤ 1000)
  (ret : ∀ nx h' tk' t, Fr h₀ L h' m → News h₀ L h' (nx ++ news) → Q (.str (S (spelled d l)) t) (Shared.mk h' s0g s0d tk' s0o))
  :
  wpAny (model PySem.Challenge.rw_kl0306_01.row.prog w) (aA dp un gd env outer) (call (.ref 263) [.str (S l) t1, .int d t2]) Q E (Shared.mk s0h s0g s0d s0t s0o) := by
  have hStop0 : StopAt "eval ListComp" := trivial
  have hStop1 : StopAt "call ref" := trivial
  have hStop2 : StopAt "binaryOp Add str str" := trivial
  revert X; k_fill; intro X
  refine wpAny_call ?_
  k_dflt (refine' code_def ?k1 ?k2 ?k3 ?k4 ?k5 ?kA ?kF ?kK ?k6 ?k7 ?k8 ?k9 ?kB ?_ ?c2 ?c3 ?c4 ?c5; (case kA => exact rfl); (case kF => assumption); (case kK => assumption); (case k1 => k_asm); (case k2 => k_asm); (case k3 => k_asm); (case k4 => k_asm); (case k5 => k_asm); (case k6 => k_is); (case k7 => k_is); (case k8 => first | wtm_at "rm" | (simp only [recursionLimit] at *; wtm_at "lo")); (case k9 => exact BindsTo.of_eq rfl); (case c5 => decide); (case kB => exact locs rfl); (case c2 => exact rfl); (case c3 => exact rfl); (case c4 => exact rfl); k_whole; intro g' L' h' FG' F' N' B' X' T'; (try dsimp only); (try k_unmd); (try k_fold); (show (let zA := _; let ze := _; wpAny _ zA (execs _ ze) _ _ _)); intro zA ze; (try (refine gen_tok ?_; intro t1')); (show (let zG : Prop := _; zG)); intro zG; have F1' := F'; clear F'; obtain ⟨m1', F', em_word, em_draw⟩ : ∃ m1 : Str → Option Value, Fr g' L' h' m1 ∧ m1 (Str.ofString "word") = some (.str (S l) t1) ∧ m1 (Str.ofString "draw") = some (.int d t2) := ⟨_, F1', by rfl, by rfl⟩; clear F1'; (try k_unmd); k_unfold; (try k_unmd))
  k_steps
  · rename (Int.fmod (d : Int) 3 = 1) => hd
    have hd1 : d % 3 = 1 := by
      rw [Int.fmod_eq_emod_of_nonneg _ (by wtm_at "lo")] at hd; wtm_at "lo"
    refine stop_in (add_S sq_quote rfl ?_ (fun tA kA => ?_))
    · simp only [List.length_cons, List.length_nil]; wtm_at "lo"
    k_steps
    refine stop_in (add_S rfl sq_quote ?_ (fun tA kA => ?_))
    · simp only [List.length_cons, List.length_append, List.length_nil]; wtm_at "lo"
    k_steps
    refine stop_in (add_S rfl (item4 d) ?_ (fun tA kA => ?_))
    · simp only [List.length_cons, List.length_append, List.length_nil]; unfold wsOf; split <;> (simp only [List.length_cons, List.length_nil]; wtm_at "lo")
    k_steps
    rename Fr _ _ _ _ => F5
    rename News _ _ _ _ => N5
    have e : S (([34] ++ l ++ [34]) ++ wsOf d) = S (spelled d l) := by
      unfold spelled bare; rw [if_pos hd1]; rfl
    rw [e]
    exact ret [] _ _ _ F5 N5
  · rename (Int.fmod (d : Int) 3 ≠ 1) => hd
    rename (Int.fmod (d : Int) 3 = 2) => hd2
    have hd1 : d % 3 ≠ 1 := by
      rw [Int.fmod_eq_emod_of_nonneg _ (by wtm_at "lo")] at hd; wtm_at "lo"
    have hd3 : d % 3 = 2 := by
      rw [Int.fmod_eq_emod_of_nonneg _ (by wtm_at "lo")] at hd2; wtm_at "lo"
    rename Fr _ _ _ _ => FA
    rename News _ _ _ _ => NA
    refine stop_in ?_
    refine my_ListComp' FA (GB := fun g => s0g = g) (cl := []) (by with_unfolding_all rfl) (by decide) (by rfl) (by decide) ?_
    k_steps
    refine iter_str rfl FA NA ?_
    intro I h3 St hSt K
    refine (fun (zk : ∀ (J : Nat → List Value → List (Addr × Obj) → Prop), (∀ (i : Nat) (ys : List Value) (nw : List (Addr × Obj)) , (news = nw) → (StrsAre ys ((l.take i).map fun c => S [92, c])) → J i ys nw) → (∀ (i : Nat) (ys : List Value) (nw : List (Addr × Obj)) (zG : Prop), ((news = nw) → (StrsAre ys ((l.take i).map fun c => S [92, c])) → zG) → J i ys nw → zG) → _) => zk (fun i ys nw => ∀ zG : Prop, ((news = nw) → (StrsAre ys ((l.take i).map fun c => S [92, c])) → zG) → zG) (fun i ys nw  zh0 zh1 _ zk => zk  zh0 zh1) (fun i ys nw zG zk zh => zh zG zk)) ?_; intro J Jmk Jel
    refine compAt_S J K (by show (S l).length ≤ _; rw [S_len, sizeLine_eq]; wtm_at "lo")
      (fun ys => stable_local hSt) (Jmk _ _ _ rfl .nil) ?_ ?_
    · rintro i v ys nw oI C oC D mC h3 tk3 E' hi hP JJ
      refine Jel _ _ _ _ ?_ JJ
      clear JJ
      rintro rfl hys hoC F3 N3 hoff hne -
      show (let zG : Prop := _; zG)
      intro zG
      obtain ⟨c, u, hc, rfl⟩ := hP
      have hc' : l[i]? = some c := by simpa [S] using hc
      have ho := hoff.mem
      (try k_unmd); k_unfold
      refine turn_name (by decide) rfl F3 hoC N3 hne.1 (fun p hp => ?_) ?_
      · rcases List.mem_cons.mp hp with rfl | hp
        · exact Ne.symm hne.2.2
        · exact (ho p hp).2.1
      intro h4 oC4 mC4 F4 hoC4 hx4 N4
      try dsimp only
      try k_fold
      k_steps
      refine stop_in (add_S (b := [c]) sq_back rfl (by simp) (fun tA kA => ?_))
      k_steps
      rename News _ _ _ _ => N5
      rename Fr _ _ _ _ => F5
      refine turnEnd_mk F5 hoC4 N5 hoff (Jmk _ _ _ rfl ?_)
      have e1 : l.take (i + 1) = l.take i ++ [c] := by
        rw [List.take_add_one, hc']; rfl
      rw [e1, List.map_append]
      exact strs_snoc hys _ _
    · rintro D C h3 tk3 m3 ys nw F3 N3 o1 hn3 hC0 hD0 hCL hDL hCD offC hJ
      refine Jel _ _ _ _ ?_ hJ
      clear hJ
      rintro rfl hys
      intro h4 hs4
      obtain ⟨F4, N4⟩ := fin_E' F3 N3 hC0 hCL hCD offC hs4
      try k_fold
      k_steps
      have hall : l.take (S l).cps.size = l := by
        rw [List.take_of_length_le]; simp [S]
      rw [hall] at hys
      have hmm : (l.map fun c => S [92, c]) = ((l.map fun c => [92, c]).map S) := by rw [List.map_map]; rfl
      refine join_list (D := D) (items := ys.toArray) (ys := (l.map fun c => S [92, c])) ⟨_, (N4 _ (.head _)).1, rfl, _, rfl⟩ (by simpa using hys) ?_ (fun t' k => ?_)
      · rw [List.map_map, List.length_map]
        have := sum2 l
        rw [this]
        show 2 * l.length + _ * 0 ≤ 16777216
        wtm_at "lo"
      k_steps
      have hj : Txt.join (Str.ofString "") (l.map fun c => S [92, c]) = S (l.flatMap (fun c => [92, c])) := by
        unfold Txt.join
        rw [PySem.StrLaws.glued_eq_join, show Str.ofString "" = Str.empty from rfl, hmm, join_S]; rfl
      refine stop_in (add_S hj (item4 d) ?_ (fun tA kA => ?_))
      · rw [flat_len]; unfold wsOf; split <;> (simp only [List.length_cons, List.length_nil]; wtm_at "lo")
      k_steps
      rename Fr _ _ _ _ => F5
      rename News _ _ _ _ => N5
      have e : S ((l.flatMap (fun c => [92, c])) ++ wsOf d) = S (spelled d l) := by
        unfold spelled bare; rw [if_neg hd1, if_pos hd3]
      rw [e]
      exact ret [_] _ _ _ F5 N5
  · rename (Int.fmod (d : Int) 3 ≠ 1) => hd
    rename (Int.fmod (d : Int) 3 ≠ 2) => hd2
    have hd1 : d % 3 ≠ 1 := by
      rw [Int.fmod_eq_emod_of_nonneg _ (by wtm_at "lo")] at hd; wtm_at "lo"
    have hd3 : d % 3 ≠ 2 := by
      rw [Int.fmod_eq_emod_of_nonneg _ (by wtm_at "lo")] at hd2; wtm_at "lo"
    refine stop_in (add_S rfl (item4 d) ?_ (fun tA kA => ?_))
    · unfold wsOf; split <;> (simp only [List.length_cons, List.length_nil]; wtm_at "lo")
    k_steps
    rename Fr _ _ _ _ => F5
    rename News _ _ _ _ => N5
    have e : S (l ++ wsOf d) = S (spelled d l) := by
      unfold spelled bare; rw [if_neg hd1, if_neg hd3]
    rw [e]
    exact ret [] _ _ _ F5 N5
end Mine.Internal
end PartCspelled
theorem Mine.Internal.fresh7 : True ∧ True := by
  w_top off
  first | (walk1; fail) | exact ⟨trivial, trivial⟩
section PartCplaces
open PySem PySem.W PyProof.Rows PyProof.Rows.LCg
namespace Mine.Internal
set_option hygiene false in
local macro_rules | `(tactic| walk_at "binaryOp Mod int int") => `(tactic| (k_here; refine mod_int' (by wtm_at "lo") ?_))
set_option hygiene false in
local macro_rules | `(tactic| walk_at "inplaceOp FloorDiv int int") => `(tactic| (k_here; refine ifloordiv_int (by wtm_at "lo") ?_ (Or.inl (PyProof.noPylong_small (by wtm_at "lo")))))
theorem small_primes : ∀ i, i < 19 → ∃ p, primesN[i]? = some p ∧ 2 ≤ p ∧ p < 100 := by
  intro i hi
  have h : ∀ i : Fin 19, primesN[i.val]? = some (primesN.getD i.val 0) ∧ 2 ≤ primesN.getD i.val 0 ∧ primesN.getD i.val 0 < 100 := by decide
  exact ⟨_, (h ⟨i, hi⟩).1, (h ⟨i, hi⟩).2⟩
theorem c_places {w : World} {A₀ : Around} {base h₀ : Heap} {outer : List Env} {dp un : Nat} {gd : Option (List Code)} {env : Env} {L : Addr} {m : Str → Option Value} {news : List (Addr × Obj)} {loose : List Str} {mean : ExcName → Option Value} {mg mb : Str → Option Value} {s0h : Heap} {s0g : Array GenState} {s0d : Drawn} {s0t : Nat} {s0o : OsState} {Q E : Value → Shared → Prop} (l : List Nat) (n : Nat) (t1 : Tok) (pr : Addr) (pv : List Value)
  (B : Below A₀ base outer h₀) (F : Fr h₀ L s0h m) (X : (hd.heap_39 w.params).In h₀) (N : News h₀ L s0h news) (T : Top topProg loose mean mg mb h₀) (hf : env.frame = some L) (hke : env.scope.kind = .function) (hdp : dp + 24 < recursionLimit) (hun : un + 300 < cLine) (hpr : (pr, tup pv) ∈ news) (hpv : IntsAre pv primesI) (hl : ∀ c ∈ l, 65 ≤ c) (hl2 : l.length ≤ 40) (hn : valL l = n) (hpl : (placesOf n).length ≤ 100) (hn2 : n < 2 ^ 60)
  (ret : ∀ D vs e h' tk', Fr h₀ L h' m → News h₀ L h' ((D, W.listOf vs.toArray e) :: news) → (∀ p ∈ news, p.1 < D) → IntsAre vs ((placesOf n).map fun y : Nat => (y : Int)) → Q (.ref D) (Shared.mk h' s0g s0d tk' s0o))
  :
  wpAny (model PySem.Challenge.rw_kl0306_01.row.prog w) (aA dp un gd env outer) (call (.ref 270) [.str (S l) t1, .ref pr]) Q E (Shared.mk s0h s0g s0d s0t s0o) := by
  have hStop0 : StopAt "eval ListComp" := trivial
  have hStop1 : StopAt "call ref" := trivial
  have hStop2 : StopAt "call builtin:len" := trivial
  have hStop3 : StopAt "call builtin:list.append" := trivial
  have hStop4 : StopAt "subscriptTail" := trivial
  have hStop5 : StopAt "exec While Compare cons nil" := trivial
  have hStop6 : StopAt "exec For Name Name cons nil" := trivial
  have hStop7 : StopAt "exec For Name Call cons nil" := trivial
  revert X; k_fill; intro X
  refine wpAny_call ?_
  k_dflt (refine' code_def ?k1 ?k2 ?k3 ?k4 ?k5 ?kA ?kF ?kK ?k6 ?k7 ?k8 ?k9 ?kB ?_ ?c2 ?c3 ?c4 ?c5; (case kA => exact rfl); (case kF => assumption); (case kK => assumption); (case k1 => k_asm); (case k2 => k_asm); (case k3 => k_asm); (case k4 => k_asm); (case k5 => k_asm); (case k6 => k_is); (case k7 => k_is); (case k8 => first | wtm_at "rm" | (simp only [recursionLimit] at *; wtm_at "lo")); (case k9 => exact BindsTo.of_eq rfl); (case c5 => decide); (case kB => exact locs rfl); (case c2 => exact rfl); (case c3 => exact rfl); (case c4 => exact rfl); k_whole; intro g' L' h' FG' F' N' B' X' T'; (try dsimp only); (try k_unmd); (try k_fold); (show (let zA := _; let ze := _; wpAny _ zA (execs _ ze) _ _ _)); intro zA ze; (try (refine gen_tok ?_; intro t1')); (show (let zG : Prop := _; zG)); intro zG; have F1' := F'; clear F'; obtain ⟨m1', F', em_word, em_primes⟩ : ∃ m1 : Str → Option Value, Fr g' L' h' m1 ∧ m1 (Str.ofString "word") = some (.str (S l) t1) ∧ m1 (Str.ofString "primes") = some (.ref pr) := ⟨_, F1', by rfl, by rfl⟩; clear F1'; (try k_unmd); k_unfold; (try k_unmd))
  k_steps
  refine stop_in ?_
  refine my_For (GB := fun g => s0g = g) (h₀ := g') ?_
  k_steps
  rename Fr _ _ _ _ => FA
  rename News _ _ _ _ => NA
  refine iter_str rfl FA NA ?_
  intro I h3 St hSt K
  refine (fun (zk : ∀ (J1 : Nat → (Str → Option Value) → List (Addr × Obj) → Prop), (∀ (i : Nat) (m' : Str → Option Value) (nw : List (Addr × Obj)) (t : Tok), (news = nw) → (m' (Str.ofString "number") = some (.int (valL (l.take i) : Nat) t)) → (m' (Str.ofString "primes") = some (.ref pr)) → J1 i m' nw) → (∀ (i : Nat) (m' : Str → Option Value) (nw : List (Addr × Obj)) (zG : Prop), (∀ (t : Tok), (news = nw) → (m' (Str.ofString "number") = some (.int (valL (l.take i) : Nat) t)) → (m' (Str.ofString "primes") = some (.ref pr)) → zG) → J1 i m' nw → zG) → _) => zk (fun i m' nw => ∀ zG : Prop, (∀ (t : Tok), (news = nw) → (m' (Str.ofString "number") = some (.int (valL (l.take i) : Nat) t)) → (m' (Str.ofString "primes") = some (.ref pr)) → zG) → zG) (fun i m' nw t zh0 zh1 zh2 _ zk => zk t zh0 zh1 zh2) (fun i m' nw zG zk zh => zh zG zk)) ?_; intro J1 J1mk J1el
  refine' forAt_S J1 K (fun m' => stable_local hSt) (J1mk _ _ _ _ rfl ?e1 ?e2) ?_ ?_
  case e1 => ((try dsimp only); (repeat (first | exact if_pos rfl | with_reducible assumption | (refine (if_neg ?_).trans ?_; focus decide))); try rfl)
  case e2 => ((try dsimp only); (repeat (first | exact if_pos rfl | with_reducible assumption | (refine (if_neg ?_).trans ?_; focus decide))); try rfl)
  · rintro i v m' nw oI h4 tk4 hi hP JJ
    refine J1el _ _ _ _ ?_ JJ
    clear JJ
    rintro t rfl e1 e2 F4 N4 off4 st4
    show (let zG : Prop := _; zG)
    intro zG
    obtain ⟨c, u, hc, rfl⟩ := hP
    have hc' : l[i]? = some c := by simpa [S] using hc
    have hc65 := hl c (List.mem_of_getElem? hc')
    (try k_unmd); k_unfold
    refine wpAny_pure ?_
    (try k_unmd); (try k_fold)
    k_steps
    rename News _ _ _ _ => N5
    rename Fr _ _ _ _ => F5
    have e5 : ((valL (l.take i) : Nat) : Int) * 16 + (c : Int) - 65 = ((valL (l.take (i + 1)) : Nat) : Int) := by
      rw [List.take_add_one, hc']
      unfold valL
      rw [List.foldl_append]
      show _ = ((List.foldl (fun n c => n * 16 + c - 65) 0 (l.take i) * 16 + c - 65 : Nat) : Int)
      wtm_at "lo"
    rw [e5] at F5
    refine' forEnd_mk F5 N5 off4 (J1mk _ _ _ _ rfl ?e7 ?e8)
    case e7 => ((try dsimp only); (repeat (first | exact if_pos rfl | with_reducible assumption | (refine (if_neg ?_).trans ?_; focus decide))); try rfl)
    case e8 => ((try dsimp only); (repeat (first | exact if_pos rfl | with_reducible assumption | (refine (if_neg ?_).trans ?_; focus decide))); try rfl)
  · rintro h4 tk4 m' nw F4 N4 JJ
    refine J1el _ _ _ _ ?_ JJ
    clear JJ
    rintro t rfl e1 e2
    have e9 : valL (l.take (S l).cps.size) = n := by
      rw [List.take_of_length_le (by simp [S])]; exact hn
    rw [e9] at e1
    k_steps
    refine stop_in ?_
    refine my_For (GB := fun g => s0g = g) (h₀ := g') ?_
    k_steps
    rename News _ _ _ _ => N5
    refine stop_in (len_tup N5 (.tail _ hpr) (by rw [hpv.length]; decide) ?_)
    intro u5 k5
    rw [hpv.length, show primesI.length = 19 from rfl]
    k_steps
    rename Fr _ _ _ _ => FR
    rename News _ _ _ _ => NR
    rename (IsRange _ _ _ _ _ _ _ _) => hr
    refine iter_range (n := 19) rfl hr (by decide) (by decide) FR NR ?_
    intro I2 h5 St2 hSt2 K2
    clear hr
    rename (∀ p : Addr × Obj, p ∈ _ → p.1 < _) => l7
    rename_i D _ _ _ _ _ _ _ _ _ _ _ _ _
    refine (fun (zk : ∀ (J2 : Nat → (Str → Option Value) → List (Addr × Obj) → Prop), (∀ (i : Nat) (m1 : Str → Option Value) (nw1 : List (Addr × Obj)) (q : Nat) (t : Tok) (ys : List Nat) (vs : List Value) (e : Nat), (nw1 = (D, W.listOf vs.toArray e) :: news) → (m1 (Str.ofString "number") = some (.int q t)) → (m1 (Str.ofString "primes") = some (.ref pr)) → (m1 (Str.ofString "places") = some (.ref D)) → (IntsAre vs (ys.map fun y : Nat => (y : Int))) → (ys ++ fac (primesN.drop i) (i + 1) q = placesOf n) → (q ≤ n) → J2 i m1 nw1) → (∀ (i : Nat) (m1 : Str → Option Value) (nw1 : List (Addr × Obj)) (zG : Prop), (∀ (q : Nat) (t : Tok) (ys : List Nat) (vs : List Value) (e : Nat), (nw1 = (D, W.listOf vs.toArray e) :: news) → (m1 (Str.ofString "number") = some (.int q t)) → (m1 (Str.ofString "primes") = some (.ref pr)) → (m1 (Str.ofString "places") = some (.ref D)) → (IntsAre vs (ys.map fun y : Nat => (y : Int))) → (ys ++ fac (primesN.drop i) (i + 1) q = placesOf n) → (q ≤ n) → zG) → J2 i m1 nw1 → zG) → _) => zk (fun i m1 nw1 => ∀ zG : Prop, (∀ (q : Nat) (t : Tok) (ys : List Nat) (vs : List Value) (e : Nat), (nw1 = (D, W.listOf vs.toArray e) :: news) → (m1 (Str.ofString "number") = some (.int q t)) → (m1 (Str.ofString "primes") = some (.ref pr)) → (m1 (Str.ofString "places") = some (.ref D)) → (IntsAre vs (ys.map fun y : Nat => (y : Int))) → (ys ++ fac (primesN.drop i) (i + 1) q = placesOf n) → (q ≤ n) → zG) → zG) (fun i m1 nw1 q t ys vs e zh0 zh1 zh2 zh3 zh4 zh5 zh6 _ zk => zk q t ys vs e zh0 zh1 zh2 zh3 zh4 zh5 zh6) (fun i m1 nw1 zG zk zh => zh zG zk)) ?_; intro J2 J2mk J2el
    refine' forAt_S J2 K2 (fun m' => stable_local hSt2) (J2mk _ _ _ n _ [] [] 0 rfl ?e1 ?e2 ?e3 .nil rfl (Nat.le_refl _)) ?_ ?_
    case e1 => ((try dsimp only); (repeat (first | exact if_pos rfl | with_reducible assumption | (refine (if_neg ?_).trans ?_; focus decide))); try rfl)
    case e2 => ((try dsimp only); (repeat (first | exact if_pos rfl | with_reducible assumption | (refine (if_neg ?_).trans ?_; focus decide))); try rfl)
    case e3 => ((try dsimp only); (repeat (first | exact if_pos rfl | with_reducible assumption | (refine (if_neg ?_).trans ?_; focus decide))); try rfl)
    · intro i v m1 nw1 oI h6 tk6 hi zq3 JJ
      refine J2el _ _ _ _ ?_ JJ
      clear JJ
      rintro q t7 ys vs e rfl e11 e12 e13 hys hfac hqn F6 N6 off6 st6
      (show (let zG : Prop := _; zG); intro zG; obtain ⟨tv, rfl⟩ := zq3; (try k_unmd); k_unfold)
      have ei : (0 : Int) + (i : Int) = (i : Int) := by wtm_at "lo"
      rw [ei]
      refine wpAny_pure ?_
      (try k_unmd); (try k_fold)
      k_steps
      · refine forEnd_ret ?_
        k_steps
        rename News _ _ _ _ => N9
        rename Fr _ _ _ _ => F9
        rename ((q : Int) < 2) => hq2
        rw [fac_small (by wtm_at "lo"), List.append_nil] at hfac
        subst hfac
        exact ret _ _ _ _ _ F9 (drop1 N9) l7 hys
      · rename (¬ ((q : Int) < 2)) => hq2
        have hq3 : ¬ q < 2 := by wtm_at "lo"
        have off6' : ∀ (vs : List Value) (e : Nat), ∀ p ∈ (D, W.listOf vs.toArray e) :: news, p.1 ≠ I2 := fun vs e p hp => by
          rcases List.mem_cons.mp hp with rfl | hp
          · exact (off6 _ (.head _) : D ≠ I2)
          · exact off6 p (.tail _ hp)
        show (let zG : Prop := _; zG)
        intro zG
        obtain ⟨p, hp, hp2⟩ : ∃ p, primesN[i]? = some p ∧ 2 ≤ p ∧ p < 100 := by
          exact small_primes i hi
        obtain ⟨tp, hpi⟩ := int_get hpv (show primesI[i]? = some (p : Int) from primesI_get hp)
        rename News _ _ _ _ => NW
        rename Fr _ _ _ _ => FW
        (try k_unmd); k_unfold
        refine stop_in ?_
        refine (fun (zk : ∀ (J3 : Nat → (Str → Option Value) → List (Addr × Obj) → Prop), (∀ (k : Nat) (m₁ : Str → Option Value) (nx : List (Addr × Obj)) (f : Nat) (t : Tok) (zs : List Nat) (ws : List Value) (e' : Nat), (k ≤ f) → (1 ≤ k) → (k ≤ n) → (nx = (I2, oI) :: (D, W.listOf ws.toArray e') :: news) → (m₁ (Str.ofString "number") = some (.int k t)) → (m₁ (Str.ofString "k") = some (.int i tv)) → (m₁ (Str.ofString "primes") = some (.ref pr)) → (m₁ (Str.ofString "places") = some (.ref D)) → (IntsAre ws (zs.map fun y : Nat => (y : Int))) → (zs ++ (facW p (i + 1) f k).2 = ys ++ (facW p (i + 1) q q).2) → ((facW p (i + 1) f k).1 = (facW p (i + 1) q q).1) → J3 k m₁ nx) → (∀ (k : Nat) (m₁ : Str → Option Value) (nx : List (Addr × Obj)) (zG : Prop), (∀ (f : Nat) (t : Tok) (zs : List Nat) (ws : List Value) (e' : Nat), (k ≤ f) → (1 ≤ k) → (k ≤ n) → (nx = (I2, oI) :: (D, W.listOf ws.toArray e') :: news) → (m₁ (Str.ofString "number") = some (.int k t)) → (m₁ (Str.ofString "k") = some (.int i tv)) → (m₁ (Str.ofString "primes") = some (.ref pr)) → (m₁ (Str.ofString "places") = some (.ref D)) → (IntsAre ws (zs.map fun y : Nat => (y : Int))) → (zs ++ (facW p (i + 1) f k).2 = ys ++ (facW p (i + 1) q q).2) → ((facW p (i + 1) f k).1 = (facW p (i + 1) q q).1) → zG) → J3 k m₁ nx → zG) → _) => zk (fun k m₁ nx => ∀ zG : Prop, (∀ (f : Nat) (t : Tok) (zs : List Nat) (ws : List Value) (e' : Nat), (k ≤ f) → (1 ≤ k) → (k ≤ n) → (nx = (I2, oI) :: (D, W.listOf ws.toArray e') :: news) → (m₁ (Str.ofString "number") = some (.int k t)) → (m₁ (Str.ofString "k") = some (.int i tv)) → (m₁ (Str.ofString "primes") = some (.ref pr)) → (m₁ (Str.ofString "places") = some (.ref D)) → (IntsAre ws (zs.map fun y : Nat => (y : Int))) → (zs ++ (facW p (i + 1) f k).2 = ys ++ (facW p (i + 1) q q).2) → ((facW p (i + 1) f k).1 = (facW p (i + 1) q q).1) → zG) → zG) (fun k m₁ nx f t zs ws e' zh0 zh1 zh2 zh3 zh4 zh5 zh6 zh7 zh8 zh9 zh10 _ zk => zk f t zs ws e' zh0 zh1 zh2 zh3 zh4 zh5 zh6 zh7 zh8 zh9 zh10) (fun k m₁ nx zG zk zh => zh zG zk)) ?_; intro J3 J3mk J3el
        refine while_S J3 q FW NW (J3mk _ _ _ q t7 ys vs e (Nat.le_refl _) (by wtm_at "lo") hqn rfl ?f1 ?f2 ?f3 ?f4 hys rfl rfl) ?_
        case f1 => ((try dsimp only); (repeat (first | exact if_pos rfl | with_reducible assumption | (refine (if_neg ?_).trans ?_; focus decide))); try rfl)
        case f2 => ((try dsimp only); (repeat (first | exact if_pos rfl | with_reducible assumption | (refine (if_neg ?_).trans ?_; focus decide))); try rfl)
        case f3 => ((try dsimp only); (repeat (first | exact if_pos rfl | with_reducible assumption | (refine (if_neg ?_).trans ?_; focus decide))); try rfl)
        case f4 => ((try dsimp only); (repeat (first | exact if_pos rfl | with_reducible assumption | (refine (if_neg ?_).trans ?_; focus decide))); try rfl)
        intro k m₁ nx h₁ tk₁ JJ3
        refine J3el _ _ _ _ ?_ JJ3
        clear JJ3
        rintro f t zs ws e' hkf hk1 hkn rfl e21 e22 e23 e24 hzs hz2 hz3 F₁ N₁
        (try k_unmd); (try k_fold)
        k_steps
        rename News _ _ _ _ => NX
        refine stop_in (item_tup NX (.tail _ (.tail _ hpr)) rfl hpi (by rw [hpv.length]; decide) ?_)
        k_steps
        · refine stop_in ?_
          rename News _ _ _ _ => N9
          rename Fr _ _ _ _ => F9
          have hlen : zs.length ≤ 100 := by
            refine Nat.le_trans ?_ hpl
            rw [← hfac, fac_cons hp hq3, List.length_append, List.length_append]
            have := congrArg List.length hz2
            rw [List.length_append, List.length_append] at this
            wtm_at "lo"
          have hlen2 : ws.length ≤ 100 := by rw [hzs.length, List.length_map]; exact hlen
          refine app_L (vs := ws) (e := e') (D := D) F9 N9 (.tail (Ne.symm (off6 (D, _) (.head _) : D ≠ I2)) (.head fun p hp => Nat.ne_of_lt (l7 p hp))) (by wtm_at "lo") ?_
          intro h9 F10 N10
          k_steps
          refine stop_in ?_
          rename News _ _ _ _ => N11
          refine item_tup N11 (.tail _ (.tail _ hpr)) rfl hpi (by rw [hpv.length]; decide) ?_
          k_steps
          rename News _ _ _ _ => N12
          rename Fr _ _ _ _ => F12
          rename ((k : Int).fmod p = 0) => hm
          have hm2 : k % p = 0 := by
            rw [Int.fmod_eq_emod_of_nonneg _ (by wtm_at "lo")] at hm; wtm_at "lo"
          obtain ⟨f', rfl⟩ : ∃ f', f = f' + 1 := ⟨f - 1, by wtm_at "lo"⟩
          rw [facW_c, if_pos hm2] at hz2 hz3
          have hdv : ((k : Int)).fdiv p = ((k / p : Nat) : Int) := by rw [Int.fdiv_eq_ediv_of_nonneg _ (by wtm_at "lo")]; rfl
          have hlt : k / p < k := Nat.div_lt_self (by wtm_at "lo") (by wtm_at "lo")
          have hkp : 1 ≤ k / p := (Nat.le_div_iff_mul_le (by wtm_at "lo")).mpr (by
            have := Nat.le_of_dvd (by wtm_at "lo") (Nat.dvd_of_mod_eq_zero hm2); wtm_at "lo")
          rw [hdv] at F12
          refine' whlEnd_mk (n' := k / p) F12 N12 hlt (J3mk _ _ _ f' _ (zs ++ [i + 1]) _ _ (by wtm_at "lo") hkp (by wtm_at "lo") rfl ?g1 ?g2 ?g3 ?g4 ?g5 ?g6 hz3)
          case g1 => ((try dsimp only); (repeat (first | exact if_pos rfl | with_reducible assumption | (refine (if_neg ?_).trans ?_; focus decide))); try rfl)
          case g2 => ((try dsimp only); (repeat (first | exact if_pos rfl | with_reducible assumption | (refine (if_neg ?_).trans ?_; focus decide))); try rfl)
          case g3 => ((try dsimp only); (repeat (first | exact if_pos rfl | with_reducible assumption | (refine (if_neg ?_).trans ?_; focus decide))); try rfl)
          case g4 => ((try dsimp only); (repeat (first | exact if_pos rfl | with_reducible assumption | (refine (if_neg ?_).trans ?_; focus decide))); try rfl)
          case g5 =>
            rw [List.map_append]
            refine ints_app hzs ?_
            exact .cons _ _ .nil
          case g6 => rw [← hz2, List.append_assoc]; rfl
        · rename News _ _ _ _ => N9
          rename Fr _ _ _ _ => F9
          rename ((k : Int).fmod p ≠ 0) => hm
          have hm2 : k % p ≠ 0 := by
            rw [Int.fmod_eq_emod_of_nonneg _ (by wtm_at "lo")] at hm; wtm_at "lo"
          obtain ⟨f', rfl⟩ : ∃ f', f = f' + 1 := ⟨f - 1, by wtm_at "lo"⟩
          rw [facW_c, if_neg hm2] at hz2 hz3
          rw [List.append_nil] at hz2
          refine forEnd_mk F9 N9 ?_ (J2mk _ _ _ k _ zs ws e' rfl e21 e23 e24 hzs ?_ hkn)
          · intro p hp
            exact off6' _ _ p hp
          · rw [← hfac, fac_cons hp hq3, ← List.append_assoc, ← hz2, ← hz3]
    · rintro h6 tk6 m1 nw1 F6 N6 JJ
      refine J2el _ _ _ _ ?_ JJ
      clear JJ
      rintro q t7 ys vs e rfl e11 e12 e13 hys hfac hqn
      k_steps
      rename News _ _ _ _ => N9
      rename Fr _ _ _ _ => F9
      have : fac (primesN.drop 19) (19 + 1) q = [] := rfl
      rw [this, List.append_nil] at hfac
      subst hfac
      exact ret _ _ _ _ _ F9 N9 l7 hys
end Mine.Internal
end PartCplaces
theorem Mine.Internal.fresh8 : True ∧ True := by
  w_top off
  first | (walk1; fail) | exact ⟨trivial, trivial⟩
section PartCdrawn
open PySem PySem.W PyProof.Rows PyProof.Rows.LCg
namespace Mine.Internal
set_option hygiene false in
local macro_rules | `(tactic| k_upd) => `(tactic| (apply upd_own; assumption; k_upd))
set_option hygiene false in
local macro_rules | `(tactic| walk_at "eval Name") => `(tactic| ((with_reducible show wpAny _ _ (eval (Expr.Name (Str.ofString "cells") _) (compEnvC _ _ _ _)) _ _ _); refine stop_out ?_))
set_option hygiene false in
local macro_rules | `(tactic| walk_at "binaryOp Mod int int") => `(tactic| (k_here; refine mod_int' (by wtm_at "lo") ?_))
theorem ints_take {vs : List Value} {ns : List Int} (h : IntsAre vs ns) : ∀ k, IntsAre (vs.take k) (ns.take k) := by
  induction h with
  | nil => intro k; simp only [List.take_nil]; exact .nil
  | cons y t _ ih =>
    intro k
    cases k with
    | zero => exact .nil
    | succ k => exact .cons y t (ih k)
theorem pick60 (vs : List Value) : sliceBounds none (some 60) none vs.toArray.size = (((0 : Nat) : Int), ((min 60 vs.length : Nat) : Int), 1) := by
  rw [sliceBounds_plain]
  have e : clipAt vs.toArray.size 60 = min 60 vs.length := by
    rw [List.size_toArray]
    exact clipAt_nat vs.length 60
  show (((0 : Nat) : Int), ((clipAt vs.toArray.size 60 : Nat) : Int), (1 : Int)) = _
  rw [e]
theorem range_small (n : Nat) (h : n ≤ 6) : Builtin.Range.small 2 ((n : Int) + 1) 1 = true :=
  (by decide : ∀ n : Nat, n < 7 → Builtin.Range.small 2 ((n : Int) + 1) 1 = true) n (Nat.lt_succ_of_le h)
theorem range_size (n : Nat) (h4 : 4 ≤ n) (h : n ≤ 6) : Builtin.Range.rangeSize 2 ((n : Int) + 1) 1 = ((n - 1 : Nat) : Int) :=
  (by decide : ∀ n : Nat, n < 7 → 4 ≤ n → Builtin.Range.rangeSize 2 ((n : Int) + 1) 1 = ((n - 1 : Nat) : Int)) n (Nat.lt_succ_of_le h) h4
theorem c_drawn {w : World} {A₀ : Around} {base h₀ : Heap} {outer : List Env} {dp un : Nat} {gd : Option (List Code)} {env : Env} {L : Addr} {m : Str → Option Value} {news : List (Addr × Obj)} {loose : List Str} {mean : ExcName → Option Value} {mg mb : Str → Option Value} {s0h : Heap} {s0g : Array GenState} {s0d : Drawn} {s0t : Nat} {s0o : OsState} {Q E : Value → Shared → Prop} (a : Addr) (vs : List Value) (ns : List Int) (e : Nat)
  (B : Below A₀ base outer h₀) (F : Fr h₀ L s0h m) (X : (hd.heap_39 w.params).In h₀) (N : News h₀ L s0h news) (T : Top topProg loose mean mg mb h₀) (hf : env.frame = some L) (hke : env.scope.kind = .function) (hdp : dp + 24 < recursionLimit) (hun : un + 300 < cLine) (hl : h₀.IsList a vs.toArray) (hI : IntsAre vs ns) (h64 : ns.length < 64)
  (ret : ∀ R lD lvs le nx h' tk' a1 a2 a3, Fr h₀ L h' m → News h₀ L h' ((R, tup [.ref lD, .int (goalOf (cellsOf ns) (sizeOf' ns - 1) : Nat) a1, .int (wantedOf (cellsOf ns) : Nat) a2, .int (drawOf (cellsOf ns) : Nat) a3]) :: nx) → (lD, W.listOf (List.toArray lvs) le) ∈ nx → LinksAt nx lvs (linksOf (cellsOf ns) (sizeOf' ns - 1)) → (∀ p ∈ news, p ∈ nx) → Q (.ref R) (Shared.mk h' s0g s0d tk' s0o))
  :
  wpAny (model PySem.Challenge.rw_kl0306_01.row.prog w) (aA dp un gd env outer) (call (.ref 246) [.ref a]) Q E (Shared.mk s0h s0g s0d s0t s0o) := by
  have hStop0 : StopAt "eval ListComp" := trivial
  have hStop1 : StopAt "call ref" := trivial
  have hStop2 : StopAt "call type:enumerate" := trivial
  have hStop3 : StopAt "call builtin:len" := trivial
  have hStop4 : StopAt "subscriptTail" := trivial
  have hStop5 : StopAt "exec For Tuple Call cons nil" := trivial
  have hStop6 : StopAt "exec Assign cons ListComp" := trivial
  revert X; k_fill; intro X
  refine wpAny_call ?_
  k_dflt (refine' code_defC ?k1 ?k2 ?k3 ?k4 ?k5 ?kA ?kF ?kK ?k6 ?k7 ?k8 ?k9 ?kB ?kD ?_ ?c2 ?c3 ?c4; (case kA => exact rfl); (case kF => assumption); (case kK => assumption); (case k1 => k_asm); (case k2 => k_asm); (case k3 => k_asm); (case k4 => k_asm); (case k5 => k_asm); (case k6 => k_is); (case k7 => k_is); (case k8 => first | wtm_at "rm" | (simp only [recursionLimit] at *; wtm_at "lo")); (case k9 => exact BindsTo.of_eq rfl); (case kB => exact rfl); (case kD => decide +kernel); (case c2 => exact rfl); (case c3 => exact rfl); (case c4 => exact rfl); k_whole; intro g' L' h' tk' cells' FG' F' N' Y' B' X' T' l1; (show (let zG : Prop := _; zG)); intro zG; k_cells Y'; (try simp only [List.cons_append, List.nil_append] at N'); (try k_unmd); k_unfold; (try dsimp only); (try k_unmd); (try k_fold); (show (let zA := _; let ze := _; wpAny _ zA (execs _ ze) _ _ _)); intro zA ze; (try k_unmd))
  rename Obj => o1
  rename o1.data = _ => d1
  replace d1 : o1.data = .cell none := d1.trans (by kernel_rfl)
  k_steps
  rename_i l7 _ _ _ _ _ _ _
  refine stop_in ?_
  refine For_pair3 g' rfl rfl rfl rfl ?_ (by intro _; rfl)
  k_steps
  rename Fr _ _ _ _ => FA
  rename News _ _ _ _ => NA
  refine kmk_slice FA NA (by obtain ⟨o, q, r⟩ := hl; exact ⟨o, FA.keep _ _ (FG'.keep _ _ q), r⟩) (by constructor) (by constructor) ?_ (by with_unfolding_all rfl) (by intro _; with_unfolding_all rfl) ?_
  rotate_left
  · rw [List.size_toArray, hI.length, sizeLine_eq]; wtm_at "lo"
  intro D h2 F2 N2 lD
  rename (L' + 1 < _ ∧ _) => l2
  have hslice : IntsAre (slicePick vs.toArray none (some 60) none).toList (ns.take 60) := by
    have e1 : slicePick vs.toArray none (some 60) none = ((vs.toArray.toList.drop 0).take (min 60 vs.length - 0)).toArray := kmk_pick_nat (a := 0) (b := min 60 vs.length) vs.toArray (pick60 _)
    rw [e1]
    have e2 : ((vs.toArray.toList.drop 0).take (min 60 vs.length - 0)).toArray.toList = vs.take 60 := by
      show (vs.take (min 60 vs.length - 0)) = vs.take 60
      rw [Nat.sub_zero]
      by_cases h : vs.length ≤ 60
      · rw [Nat.min_eq_right h, List.take_of_length_le (Nat.le_refl _), List.take_of_length_le h]
      · rw [Nat.min_eq_left (by wtm_at "lo")]
    rw [e2]
    exact ints_take hI 60
  rw [show slicePick vs.toArray none (some 60) none = (slicePick vs.toArray none (some 60) none).toList.toArray from by simp] at N2
  k_steps
  rename Fr _ _ _ _ => FB
  rename News _ _ _ _ => NB
  refine stop_in ?_
  refine call_enum_led (K := .int) rfl hslice.areOf FB NB lD ?_
  intro h3 e3 F3 N3 S3
  refine S3 _ rfl _ _ _ _ (fun i m₁ nw => ∃ cs o2, nw = (l7, W.listOf (List.toArray cs) 0) :: (L' + 1, o2) :: news ∧ IntsAre cs (NI (cellsN ns i)) ∧ o2.data = .cell (some (.ref l7)) ∧ m₁ (Str.ofString "script") = some (.ref a)) ?_ ?_ ?_
  · refine ⟨_, _, rfl, ?_, by assumption, by kernel_rfl⟩
    repeat (first | exact .nil | refine .cons _ _ ?_)
  · intro i x t v m₁ nw s₁ own zq1 hx hv zq2 hmap hown F9 N9
    (show (let zG : Prop := _; zG); intro zG; obtain ⟨h9, tk9, rfl⟩ := zq1; obtain ⟨cs, o2, rfl, hcs, d9, e9⟩ := zq2; (try k_unmd); k_unfold)
    obtain ⟨tv, rfl⟩ := ItemKind.int_is hv
    have ho7 : ∀ p ∈ own, p.1 ≠ l7 := fun p hp => hown p hp _ (.head _)
    have hlen : (NI (cellsN ns i)).length = 6 := by rw [NI_len, cellsN_len]
    k_steps
    have e6 : ((i : Int).fmod 6).toNat = i % 6 := by rw [Int.fmod_eq_emod_of_nonneg _ (by wtm_at "lo")]; wtm_at "lo"
    rename IntsAre (cs.set _ _) _ => hi9
    rw [cellsN_succ hx, ← NI_bump, ← e6]
    exact hi9
  · clear S3 F3 N3 FB NB FA NA lD hslice
    intro h4 tk4 m4 nw4 F4 N4 zc3 zq4
    clear zc3
    (show (let zG : Prop := _; zG); intro zG; obtain ⟨cs, o2, rfl, hcs, d9, e9⟩ := zq4; (try k_unmd); k_unfold)
    rw [cellsN_all] at hcs
    have hl4 : (NI (cellsOf ns)).length = 6 := by rw [NI_len]; exact cellsN_len ns _
    k_steps
    refine stop_in (len_ints_fit (ns := ns) (vs := vs) (by obtain ⟨o, q, r⟩ := hl; rename Fr _ _ _ _ => FX; exact ⟨o, FX.keep _ _ (FG'.keep _ _ q), r⟩) hI (by wtm_at "lo") ?_)
    k_steps
    refine stop_in ?_
    rename Fr _ _ _ _ => FA
    rename News _ _ _ _ => NA
    have hsz : (4 + if (ns.length : Int) < 2 then (ns.length : Int) else 2) = ((sizeOf' ns : Nat) : Int) := by
      unfold sizeOf'; split <;> wtm_at "lo"
    rw [hsz] at FA
    clear hsz
    have hsz2 : 4 ≤ sizeOf' ns ∧ sizeOf' ns ≤ 6 := by unfold sizeOf'; wtm_at "lo"
    refine my_Assign_ListComp' FA (GB := fun g => s0g = g) (cl := [(Str.ofString "cells", L' + 1)]) (by with_unfolding_all rfl) (by with_unfolding_all rfl) (by decide) (by rfl) (by decide) ?_
    k_steps
    rename Fr _ _ _ _ => FR
    rename News _ _ _ _ => NR
    rename (IsRange _ _ _ _ _ _ _ _) => hr
    refine iter_range (n := sizeOf' ns - 1) rfl hr ?_ ?_ FR NR ?_
    · exact range_small _ hsz2.2
    · exact range_size _ hsz2.1 hsz2.2
    intro I2 h5 St2 hSt2 K2
    clear hr
    refine (fun (zk : ∀ (J : Nat → List Value → List (Addr × Obj) → Prop), (∀ (i : Nat) (ys : List Value) (nw : List (Addr × Obj)) , ((∀ p ∈ (l7, W.listOf cs.toArray 0) :: (L' + 1, o2) :: news, p ∈ nw)) → (LinksAt nw ys (linksOf (cellsOf ns) i)) → J i ys nw) → (∀ (i : Nat) (ys : List Value) (nw : List (Addr × Obj)) (zG : Prop), (((∀ p ∈ (l7, W.listOf cs.toArray 0) :: (L' + 1, o2) :: news, p ∈ nw)) → (LinksAt nw ys (linksOf (cellsOf ns) i)) → zG) → J i ys nw → zG) → _) => zk (fun i ys nw => ∀ zG : Prop, (((∀ p ∈ (l7, W.listOf cs.toArray 0) :: (L' + 1, o2) :: news, p ∈ nw)) → (LinksAt nw ys (linksOf (cellsOf ns) i)) → zG) → zG) (fun i ys nw  zh0 zh1 _ zk => zk  zh0 zh1) (fun i ys nw zG zk zh => zh zG zk)) ?_; intro J Jmk Jel
    refine compAt_S J K2 (by rw [sizeLine_eq]; wtm_at "lo") (fun ys => stable_local hSt2) (Jmk _ _ _ (fun p hp => hp) trivial) ?_ ?_
    · intro i v ys nw oI C oC D mC h4 tk4 E' hi zq5 JJ
      refine Jel _ _ _ _ ?_ JJ
      clear JJ
      intro hsub hys hoC F4 N4 hoff hne hst
      (show (let zG : Prop := _; zG); intro zG; obtain ⟨tv, rfl⟩ := zq5; (try k_unmd); k_unfold)
      have ho := hoff.mem
      refine turn_name (by decide) rfl F4 hoC N4 hne.1 (fun p hp => ?_) ?_
      · rcases List.mem_cons.mp hp with rfl | hp
        · exact Ne.symm hne.2.2
        · exact (ho p hp).2.1
      intro h5 oC5 mC5 F5 hoC5 ex N5
      have q7 : (l7, W.listOf cs.toArray 0) ∈ nw := hsub _ (.head _)
      have q8 : (L' + 1, o2) ∈ nw := hsub _ (.tail _ (.head _))
      have ei2 : ((2 : Int) + (i : Int) - 2) = (i : Int) := by wtm_at "lo"
      k_steps
      refine stop_in ?_
      refine lcf_cell (c := L' + 1) (o := o2) N5 (by rfl) (.tail _ (.tail _ (.tail _ q8))) d9 ?_ (by rfl) (by rfl)
      k_steps
      refine stop_in (ksa_sub N5 (.tail _ (.tail _ (.tail _ q7))) hcs (by wtm_at "lo") (by rw [hl4]; wtm_at "lo") (by wtm_at "lo") ?_)
      intro t9
      rw [ei2, Int.toNat_natCast, NI_getD]
      k_steps
      rename Fr _ _ _ _ => F9
      rename News _ _ _ _ => N9
      rename (I2 < _ ∧ _) => l9
      have g1 : (2 + (i : Int)) = (((linkAt (cellsOf ns) i).1 : Nat) : Int) := by show _ = ((i + 2 : Nat) : Int); wtm_at "lo"
      have g2 : (1 + (((cellsOf ns).getD i 0 : Nat) : Int).fmod (2 + (i : Int) - 1)) = (((linkAt (cellsOf ns) i).2 : Nat) : Int) := by
        have g3 : (2 + (i : Int) - 1) = ((i + 1 : Nat) : Int) := by wtm_at "lo"
        rw [g3, Int.fmod_eq_emod_of_nonneg _ (by wtm_at "lo")]; rfl
      rw [g2, g1] at N9
      refine turnEnd_mk (nw := _ :: nw) F9 hoC5 (news_rot3 N9) (⟨⟨Nat.ne_of_gt l9.1, Nat.ne_of_gt l9.2.1, Nat.ne_of_gt l9.2.2.1⟩, hoff⟩) (Jmk _ _ _ (fun p hp => .tail _ (hsub p hp)) ?_)
      rw [linksOf_succ]
      exact (hys.mono fun p hp => .tail _ hp).append ⟨⟨_, _, _, rfl, .head _⟩, trivial⟩
    · rintro D C h4 tk4 m5 ys nw F5 N5 oa hn5 hC0 hD0 hCL hDL hCD offC JJ
      refine Jel _ _ _ _ ?_ JJ
      intro hsub hys
      refine' fin_A2 (s := ⟨_, _, _, _, _⟩) (L := L') ?z9hl ?z9ha ?hb F5 N5 hn5 hCL ?_
      case z9hl => rfl
      case z9ha => rfl
      case hb => rfl
      intro h6 tk6 F6 N6 hn6
      refine ⟨⟨_, hn6⟩, fun h7 hs7 => ?_⟩
      obtain ⟨F7, N7⟩ := fin_E' F6 N6 hC0 hCL hCD offC hs7
      clear N6 N5 F6 F5
      replace N7 : News g' L' h7 ((D, lst ys) :: (l7, W.listOf cs.toArray 0) :: (L' + 1, o2) :: nw) := news_sub N7 fun p hp => by
        rcases List.mem_cons.mp hp with rfl | hp
        · exact .head _
        rcases List.mem_cons.mp hp with rfl | hp
        · exact .tail _ (hsub _ (.head _))
        rcases List.mem_cons.mp hp with rfl | hp
        · exact .tail _ (hsub _ (.tail _ (.head _)))
        · exact .tail _ hp
      try k_fold
      k_steps
      rename Fr _ _ _ _ => F9
      rename News _ _ _ _ => N9
      have g1 : (2 + (((NI (cellsOf ns)).getD (Int.toNat 5) 0).fdiv 1728).fmod ((sizeOf' ns : Int) - 1)) = ((goalOf (cellsOf ns) (sizeOf' ns - 1) : Nat) : Int) := by
        have g3 : ((sizeOf' ns : Int) - 1) = ((sizeOf' ns - 1 : Nat) : Int) := by wtm_at "lo"
        rw [g3, show Int.toNat 5 = 5 from rfl, NI_getD, Int.fdiv_eq_ediv_of_nonneg _ (by wtm_at "lo"), Int.fmod_eq_emod_of_nonneg _ (by wtm_at "lo")]; rfl
      have g2 : (1 + ((NI (cellsOf ns)).getD (Int.toNat 0) 0).fmod 70) = ((wantedOf (cellsOf ns) : Nat) : Int) := by
        rw [show Int.toNat 0 = 0 from rfl, NI_getD, Int.fmod_eq_emod_of_nonneg _ (by wtm_at "lo")]; rfl
      have g4 : ((NI (cellsOf ns)).getD (Int.toNat 5) 0) = ((drawOf (cellsOf ns) : Nat) : Int) := by
        rw [show Int.toNat 5 = 5 from rfl, NI_getD]; rfl
      rw [g1, g2, g4] at N9
      exact ret _ D _ _ _ _ _ _ _ _ F9 N9 (.head _) (hys.mono fun p hp => .tail _ (.tail _ (.tail _ hp))) (fun p hp => .tail _ (.tail _ (.tail _ (hsub _ (.tail _ (.tail _ hp))))))
end Mine.Internal
end PartCdrawn
set_option hygiene false in
local macro_rules | `(tactic| walk_at "inplaceOp Mult int int") => `(tactic| (k_here; refine PyProof.Rows.imul_int ?_ (PySem.IntMulOk.of_right (PySem.intBits_le_64 (by wtm_at "lo") (by wtm_at "lo")))))
theorem Mine.Internal.fresh9 : True ∧ True := by
  w_top off
  first | (walk1; fail) | exact ⟨trivial, trivial⟩
section PartChung
open PySem PySem.W PyProof.Rows PyProof.Rows.LCg
namespace Mine.Internal
theorem hung_split {lk : List (Nat × Nat)} {f here source n : Nat} {pg : List Nat} (hg : hungO lk (f + 1) here source = some (n, pg)) : ∃ br, mapO (fun there => hungO lk f there here) ((beside lk here).filter (fun x => x != source)) = some br ∧ ∃ out, sortO br = some out ∧ numO 1 out = some n ∧ pg = pageOf n out ∧ n < 2 ^ 100 ∧ (pageOf n out).length ≤ 1000 ∧ out.length ≤ 10 := by
  refine bind_inv hg fun br hbr h => bind_inv h fun out hout h => bind_inv h fun n' hn h => ?_
  have h := if_inv' h
  cases h.2
  exact ⟨br, hbr, out, hout, hn, rfl, h.1⟩
theorem c_hung : ∀ (f : Nat) {w : World} {A₀ : Around} {base h₀ : Heap} {outer : List Env} {dp un : Nat} {gd : Option (List Code)} {env : Env} {L : Addr} {m : Str → Option Value} {news : List (Addr × Obj)} {loose : List Str} {mean : ExcName → Option Value} {mg mb : Str → Option Value} {s0h : Heap} {s0g : Array GenState} {s0d : Drawn} {s0t : Nat} {s0o : OsState} {Q E : Value → Shared → Prop} (ln pr : Addr) (here source : Nat) (th ts : Tok) (lk : List (Nat × Nat)) (lvs : List Value) (le : Nat) (pv : List Value) (n : Nat) (pg : List Nat)
  (B : Below A₀ base outer h₀) (F : Fr h₀ L s0h m) (X : (hd.heap_39 w.params).In h₀) (N : News h₀ L s0h news) (T : Top topProg loose mean mg mb h₀) (hf : env.frame = some L) (hke : env.scope.kind = .function) (hdp : dp + 24 + 4 * f < recursionLimit) (hun : un + 300 + 20 * f < cLine) (hln : (ln, W.listOf lvs.toArray le) ∈ news) (hlk : LinksAt news lvs lk) (hl10 : lk.length ≤ 10)
  (hpr : (pr, tup pv) ∈ news) (hpv : IntsAre pv primesI) (hg : hungO lk f here source = some (n, pg))
  (ret : ∀ R h' tk' a b, Fr h₀ L h' m → News h₀ L h' ((R, tup [.int (n : Nat) a, .str (S pg) b]) :: news) → (∀ p ∈ news, p.1 < R) → Q (.ref R) (Shared.mk h' s0g s0d tk' s0o)),
  wpAny (model PySem.Challenge.rw_kl0306_01.row.prog w) (aA dp un gd env outer) (call (.ref 251) [.ref ln, .int here th, .int source ts, .ref pr]) Q E (Shared.mk s0h s0g s0d s0t s0o) := by
  have hStop0 : StopAt "binaryOp Add str str" := trivial
  have hStop1 : StopAt "eval ListComp" := trivial
  have hStop2 : StopAt "call builtin:sorted" := trivial
  have hStop3 : StopAt "exec Assign cons ListComp" := trivial
  have hStop4 : StopAt "call ref" := trivial
  have hStop5 : StopAt "call builtin:len" := trivial
  have hStop6 : StopAt "call builtin:list.append" := trivial
  have hStop7 : StopAt "subscriptTail" := trivial
  have hStop8 : StopAt "exec While Compare cons nil" := trivial
  have hStop9 : StopAt "exec For Name Name cons nil" := trivial
  have hStop10 : StopAt "exec For Tuple Name cons nil" := trivial
  have hStop11 : StopAt "exec For Name Call cons nil" := trivial
  intro f
  induction f with
  | zero => intros; rename_i hg _; cases hg
  | succ f ih => ?_
  intro w A₀ base h₀ outer dp un gd env L m news loose mean mg mb s0h s0g s0d s0t s0o Q E ln pr here source th ts lk lvs le pv n pg B F X N T hf hke hdp hun hln hlk hl10 hpr hpv hg ret
  show (let zG : Prop := _; zG)
  intro zG
  obtain ⟨br, hbr, out, hout, hn, hpg, hn2, hl2, hl3⟩ : ∃ br, mapO (fun there => hungO lk f there here) ((beside lk here).filter (fun x => x != source)) = some br ∧ ∃ out, sortO br = some out ∧ numO 1 out = some n ∧ pg = pageOf n out ∧ n < 2 ^ 100 ∧ (pageOf n out).length ≤ 1000 ∧ out.length ≤ 10 := hung_split hg
  (try k_unmd); k_unfold
  revert X; k_fill; intro X
  refine wpAny_call ?_
  k_dflt (refine' code_defC ?k1 ?k2 ?k3 ?k4 ?k5 ?kA ?kF ?kK ?k6 ?k7 ?k8 ?k9 ?kB ?kD ?_ ?c2 ?c3 ?c4; (case kA => exact rfl); (case kF => assumption); (case kK => assumption); (case k1 => k_asm); (case k2 => k_asm); (case k3 => k_asm); (case k4 => k_asm); (case k5 => k_asm); (case k6 => k_is); (case k7 => k_is); (case k8 => first | wtm_at "rm" | (simp only [recursionLimit] at *; wtm_at "lo")); (case k9 => exact BindsTo.of_eq rfl); (case kB => exact rfl); (case kD => decide +kernel); (case c2 => exact rfl); (case c3 => exact rfl); (case c4 => exact rfl); k_whole; intro g' L' h' tk' cells' FG' F' N' Y' B' X' T' l1; (show (let zG : Prop := _; zG)); intro zG; k_cells Y'; (try simp only [List.cons_append, List.nil_append] at N'); (try k_unmd); k_unfold; (try dsimp only); (try k_unmd); (try k_fold); (show (let zA := _; let ze := _; wpAny _ zA (execs _ ze) _ _ _)); intro zA ze; (try k_unmd))
  rename_i o1 o2 o3 o4 d1 d2 d3 d4
  replace d1 : o1.data = .cell (some (.ref pr)) := d1.trans (by kernel_rfl)
  replace d2 : o2.data = .cell (some (.int source ts)) := d2.trans (by kernel_rfl)
  replace d3 : o3.data = .cell (some (.int here th)) := d3.trans (by kernel_rfl)
  replace d4 : o4.data = .cell (some (.ref ln)) := d4.trans (by kernel_rfl)
  rename Fr g' L' _ _ => FA
  obtain ⟨m0, hm0⟩ : ∃ m0, m0 = (fun _ => none : Str → Option Value) := ⟨_, rfl⟩
  replace FA : Fr g' L' h' m0 := by
    rw [hm0]
    refine cast (congrArg (Fr g' L' h') ?_) FA
    kernel_rfl
  k_steps
  refine stop_in ?_
  refine my_Assign_ListComp' FA (GB := fun g => s0g = g) (cl := [(Str.ofString "here", L' + 1 + 1)]) (by with_unfolding_all rfl) (by with_unfolding_all rfl) (by decide) (by rfl) (by decide) ?_
  k_steps
  rename Fr _ _ _ _ => FA
  rename News _ _ _ _ => NA
  have hln1 : ∀ {p}, p ∈ news → p ∈ (L' + 1 + 1 + 1 + 1, o1) :: (L' + 1 + 1 + 1, o2) :: (L' + 1 + 1, o3) :: (L' + 1, o4) :: news := fun h => .tail _ (.tail _ (.tail _ (.tail _ h)))
  refine iter_list rfl ⟨_, (NA _ (hln1 hln)).1, rfl, _, rfl⟩ FA NA ?_
  intro I h3 hltI K
  refine (fun (zk : ∀ (J1 : Nat → List Value → List (Addr × Obj) → Prop), (∀ (i : Nat) (ys : List Value) (nw : List (Addr × Obj)) , (nw = (L' + 1 + 1 + 1 + 1, o1) :: (L' + 1 + 1 + 1, o2) :: (L' + 1 + 1, o3) :: (L' + 1, o4) :: news) → (IntsAre ys (NI (kids (lk.take i) here))) → J1 i ys nw) → (∀ (i : Nat) (ys : List Value) (nw : List (Addr × Obj)) (zG : Prop), ((nw = (L' + 1 + 1 + 1 + 1, o1) :: (L' + 1 + 1 + 1, o2) :: (L' + 1 + 1, o3) :: (L' + 1, o4) :: news) → (IntsAre ys (NI (kids (lk.take i) here))) → zG) → J1 i ys nw → zG) → _) => zk (fun i ys nw => ∀ zG : Prop, ((nw = (L' + 1 + 1 + 1 + 1, o1) :: (L' + 1 + 1 + 1, o2) :: (L' + 1 + 1, o3) :: (L' + 1, o4) :: news) → (IntsAre ys (NI (kids (lk.take i) here))) → zG) → zG) (fun i ys nw  zh0 zh1 _ zk => zk  zh0 zh1) (fun i ys nw zG zk zh => zh zG zk)) ?_; intro J1 J1mk J1el
  refine compAt_S J1 K (by simp only [List.size_toArray, hlk.length, sizeLine_eq]; wtm_at "lo")
    (fun ys => stable_list (fun i nw h => by refine J1el _ _ _ _ ?_ h; rintro rfl -; intros; exact .inr ⟨_, hln1 hln, rfl, _, rfl⟩)) (by exact J1mk _ _ _ rfl .nil) ?_ ?_
  · rintro i v ys nw oI C oC D mC h4 tk4 E' hi hP JJ hoC F4 N4 hoff hne hst
    refine J1el _ _ _ _ ?_ JJ
    clear JJ
    rintro rfl hys
    have ho := hoff.mem
    show (let zG : Prop := _; zG)
    intro zG
    obtain ⟨p, hp, t, ta, tb, rfl, hm⟩ := hlk.get (by simpa using hP)
    (try k_unmd); k_unfold
    refine turn_pair_if rfl (by decide) (by decide) (by decide) rfl F4 hoC N4 hne.1 (fun p hp => ?_) hst.1 (tup2 N4 (.tail _ (.tail _ (.tail _ (hln1 hm))))) ?_
    · rcases List.mem_cons.mp hp with rfl | hp
      · exact Ne.symm hne.2.2
      · exact (ho p hp).2.1
    intro h5 tk5 oC5 mC5 F5 hoC5 ex ey N5
    k_steps
    · rename ((p.2 : Int) = here) => he
      exact turnEnd_mk F5 hoC5 N5 hoff (J1mk _ _ _ rfl (by rw [kids_yes hp (by wtm_at "lo"), NI_app]; exact ints_app hys (.cons _ _ .nil)))
    · rename ((p.2 : Int) ≠ here) => he
      exact turnEnd_mk F5 hoC5 N5 hoff (J1mk _ _ _ rfl (by rw [kids_no hp (by wtm_at "lo")]; simpa using hys))
  rintro Da C h4 tk4 m4 yas nw F4 N4 oa1 hn4 hC0 hD0 hCL hDL hCD offC JJ
  refine J1el _ _ _ _ ?_ JJ
  clear JJ
  rintro rfl hyas
  rw [show (lk.take lvs.toArray.size) = lk from by rw [List.take_of_length_le]; rw [List.size_toArray, hlk.length]; exact Nat.le_refl _] at hyas
  refine' fin_A2 (s := ⟨_, _, _, _, _⟩) (L := L') ?z9hl ?z9ha ?hb F4 N4 hn4 hCL ?_
  case z9hl => rfl
  case z9ha => rfl
  case hb => rfl
  intro h2 tk2 F2 N2 hn2
  refine ⟨⟨_, hn2⟩, fun h5 hs5 => ?_⟩
  obtain ⟨F5, N5⟩ := fin_E' F2 N2 hC0 hCL hCD offC hs5
  clear K F4 N4
  k_steps
  refine stop_in ?_
  refine my_ListComp' F5 (GB := fun g => s0g = g) (cl := [(Str.ofString "here", L' + 1 + 1)]) (by with_unfolding_all rfl) (by decide) (by rfl) (by decide) ?_
  k_steps
  rename Fr _ _ _ _ => FA
  rename News _ _ _ _ => NA
  refine iter_list rfl ⟨_, (NA _ (.tail _ (hln1 hln))).1, rfl, _, rfl⟩ FA NA ?_
  intro I h3 hltI K
  refine (fun (zk : ∀ (J2 : Nat → List Value → List (Addr × Obj) → Prop), (∀ (i : Nat) (ys : List Value) (nw : List (Addr × Obj)) , (nw = (Da, lst yas) :: (L' + 1 + 1 + 1 + 1, o1) :: (L' + 1 + 1 + 1, o2) :: (L' + 1 + 1, o3) :: (L' + 1, o4) :: news) → (IntsAre ys (NI (elders (lk.take i) here))) → J2 i ys nw) → (∀ (i : Nat) (ys : List Value) (nw : List (Addr × Obj)) (zG : Prop), ((nw = (Da, lst yas) :: (L' + 1 + 1 + 1 + 1, o1) :: (L' + 1 + 1 + 1, o2) :: (L' + 1 + 1, o3) :: (L' + 1, o4) :: news) → (IntsAre ys (NI (elders (lk.take i) here))) → zG) → J2 i ys nw → zG) → _) => zk (fun i ys nw => ∀ zG : Prop, ((nw = (Da, lst yas) :: (L' + 1 + 1 + 1 + 1, o1) :: (L' + 1 + 1 + 1, o2) :: (L' + 1 + 1, o3) :: (L' + 1, o4) :: news) → (IntsAre ys (NI (elders (lk.take i) here))) → zG) → zG) (fun i ys nw  zh0 zh1 _ zk => zk  zh0 zh1) (fun i ys nw zG zk zh => zh zG zk)) ?_; intro J2 J2mk J2el
  refine compAt_S J2 K (by simp only [List.size_toArray, hlk.length, sizeLine_eq]; wtm_at "lo")
    (fun ys => stable_list (fun i nw h => by refine J2el _ _ _ _ ?_ h; rintro rfl -; intros; exact .inr ⟨_, .tail _ (hln1 hln), rfl, _, rfl⟩)) (by exact J2mk _ _ _ rfl .nil) ?_ ?_
  · rintro i v ys nw oI C oC D mC h4 tk4 E' hi hP JJ hoC F4 N4 hoff hne hst
    refine J2el _ _ _ _ ?_ JJ
    clear JJ
    rintro rfl hys
    have ho := hoff.mem
    show (let zG : Prop := _; zG)
    intro zG
    obtain ⟨p, hp, t, ta, tb, rfl, hm⟩ := hlk.get (by simpa using hP)
    (try k_unmd); k_unfold
    refine turn_pair_if rfl (by decide) (by decide) (by decide) rfl F4 hoC N4 hne.1 (fun p hp => ?_) hst.1 (tup2 N4 (.tail _ (.tail _ (.tail _ (.tail _ (hln1 hm)))))) ?_
    · rcases List.mem_cons.mp hp with rfl | hp
      · exact Ne.symm hne.2.2
      · exact (ho p hp).2.1
    intro h5 tk5 oC5 mC5 F5 hoC5 ex ey N5
    k_steps
    · rename ((p.1 : Int) = here) => he
      exact turnEnd_mk F5 hoC5 N5 hoff (J2mk _ _ _ rfl (by rw [elders_yes hp (by wtm_at "lo"), NI_app]; exact ints_app hys (.cons _ _ .nil)))
    · rename ((p.1 : Int) ≠ here) => he
      exact turnEnd_mk F5 hoC5 N5 hoff (J2mk _ _ _ rfl (by rw [elders_no hp (by wtm_at "lo")]; simpa using hys))
  rintro Db C h4 tk4 m4 ybs nw F4 N4 ob1 hn4 hC0 hD0 hCL hDL hCD offC JJ
  refine J2el _ _ _ _ ?_ JJ
  clear JJ
  rintro rfl hybs
  rw [show (lk.take lvs.toArray.size) = lk from by rw [List.take_of_length_le]; rw [List.size_toArray, hlk.length]; exact Nat.le_refl _] at hybs
  intro h6 hs6
  obtain ⟨F6, N6⟩ := fin_E' F4 N4 hC0 hCL hCD offC hs6
  try k_fold
  clear K F4 N4 F2 N2
  k_steps
  have hal : yas.length ≤ 10 ∧ ybs.length ≤ 10 := by
    rw [hyas.length, hybs.length, NI_len, NI_len]
    unfold kids elders
    rw [List.length_map, List.length_map]
    exact ⟨Nat.le_trans (List.length_filter_le _ _) hl10, Nat.le_trans (List.length_filter_le _ _) hl10⟩
  have hbe : IntsAre (yas ++ ybs) (NI (beside lk here)) := by unfold beside; rw [NI_app]; exact ints_app hyas hybs
  have nab : Da ≠ Db := by have := ob1; exact this.1
  refine iadd_list F6 N6 (.tail nab.symm (.head fun p hp => ?_)) (.head _) (by wtm_at "lo") (by wtm_at "lo") ?_
  · exact off1_mem oa1 p hp
  intro h7 e7 F7 N7
  clear F6 N6
  k_steps
  refine stop_in ?_
  rename Fr _ _ _ _ => FA
  rename News _ _ _ _ => NA
  refine' my_ListComp' FA (GB := fun g => s0g = g) (cl := _) ?qc (by decide) (by rfl) (by decide) ?_
  case qc => with_unfolding_all rfl
  k_steps
  rename Fr _ _ _ _ => FB
  rename News _ _ _ _ => NB
  have hln4 : ∀ {p}, p ∈ news → p ∈ (Da, W.listOf (yas ++ ybs).toArray e7) :: (L' + 1 + 1 + 1 + 1, o1) :: (L' + 1 + 1 + 1, o2) :: (L' + 1 + 1, o3) :: (L' + 1, o4) :: news := fun h => .tail _ (hln1 h)
  refine iter_list rfl ⟨_, (NB _ (.tail _ (.head _))).1, rfl, _, rfl⟩ FB NB ?_
  intro I h3 hltI K
  refine (fun (zk : ∀ (J3 : Nat → List Value → List (Addr × Obj) → Prop), (∀ (i : Nat) (ys : List Value) (nw : List (Addr × Obj)) (bi : List (Nat × List Nat)), ((∀ p ∈ (Da, W.listOf (yas ++ ybs).toArray e7) :: (L' + 1 + 1 + 1 + 1, o1) :: (L' + 1 + 1 + 1, o2) :: (L' + 1 + 1, o3) :: (L' + 1, o4) :: news, p ∈ nw)) → (mapO (fun there => hungO lk f there here) (((beside lk here).take i).filter (fun x => x != source)) = some bi) → (PagesAt nw ys bi) → J3 i ys nw) → (∀ (i : Nat) (ys : List Value) (nw : List (Addr × Obj)) (zG : Prop), (∀ (bi : List (Nat × List Nat)), ((∀ p ∈ (Da, W.listOf (yas ++ ybs).toArray e7) :: (L' + 1 + 1 + 1 + 1, o1) :: (L' + 1 + 1 + 1, o2) :: (L' + 1 + 1, o3) :: (L' + 1, o4) :: news, p ∈ nw)) → (mapO (fun there => hungO lk f there here) (((beside lk here).take i).filter (fun x => x != source)) = some bi) → (PagesAt nw ys bi) → zG) → J3 i ys nw → zG) → _) => zk (fun i ys nw => ∀ zG : Prop, (∀ (bi : List (Nat × List Nat)), ((∀ p ∈ (Da, W.listOf (yas ++ ybs).toArray e7) :: (L' + 1 + 1 + 1 + 1, o1) :: (L' + 1 + 1 + 1, o2) :: (L' + 1 + 1, o3) :: (L' + 1, o4) :: news, p ∈ nw)) → (mapO (fun there => hungO lk f there here) (((beside lk here).take i).filter (fun x => x != source)) = some bi) → (PagesAt nw ys bi) → zG) → zG) (fun i ys nw bi zh0 zh1 zh2 _ zk => zk bi zh0 zh1 zh2) (fun i ys nw zG zk zh => zh zG zk)) ?_; intro J3 J3mk J3el
  refine compAt_S J3 K (by rw [List.size_toArray, List.length_append, sizeLine_eq]; wtm_at "lo")
    (fun ys => stable_list (fun i nw h => by refine J3el _ _ _ _ ?_ h; intro _ z; intros; exact .inr ⟨_, z _ (.head _), rfl, _, rfl⟩)) (by exact J3mk _ _ _ [] (fun p hp => .tail _ hp) rfl trivial) ?_ ?_
  · rintro i v ys nw oI C oC D mC h4 tk4 E' hi hP JJ hoC F4 N4 hoff hne hst
    refine J3el _ _ _ _ ?_ JJ
    clear JJ
    rintro bi hsub hbi hys
    have ho := hoff.mem
    show (let zG : Prop := _; zG)
    intro zG
    obtain ⟨x, tx, hx, rfl⟩ := ints_back hbe (i := i) (v := v) (by simpa using hP)
    obtain ⟨a, ha, rfl⟩ := NI_get hx
    (try k_unmd); k_unfold
    refine turn_name_if (by decide) rfl F4 hoC N4 hne.1 (fun p hp => ?_) ?_
    · rcases List.mem_cons.mp hp with rfl | hp
      · exact Ne.symm hne.2.2
      · exact (ho p hp).2.1
    intro h5 oC5 mC5 F5 hoC5 ex N5
    replace N5 : News g' L' h5 ((I, oI) :: (C, oC5) :: (D, lst ys) :: (Da, W.listOf (yas ++ ybs).toArray e7) :: (L' + 1 + 1 + 1 + 1, o1) :: (L' + 1 + 1 + 1, o2) :: (L' + 1 + 1, o3) :: (L' + 1, o4) :: nw) := news_sub N5 (sub_cons mem_0 (sub_cons mem_1 (sub_cons mem_2 (sub_cons (lift_3 (hsub _ mem_0)) (sub_cons (lift_3 (hsub _ mem_1)) (sub_cons (lift_3 (hsub _ mem_2)) (sub_cons (lift_3 (hsub _ mem_3)) (sub_cons (lift_3 (hsub _ mem_4)) sub_3))))))))
    clear N4 F4 NB FB
    k_steps
    · rename ((a : Int) ≠ source) => hne2
      obtain ⟨⟨n1, pg1⟩, hb1⟩ := mapO_mem hbr a (List.mem_filter.mpr ⟨List.mem_of_getElem? ha, by simp; wtm_at "lo"⟩)
      have hin : ∀ {p}, p ∈ news → p ∈ (I, oI) :: (C, oC5) :: (D, lst ys) :: (Da, W.listOf (yas ++ ybs).toArray e7) :: (L' + 1 + 1 + 1 + 1, o1) :: (L' + 1 + 1 + 1, o2) :: (L' + 1 + 1, o3) :: (L' + 1, o4) :: nw := fun h => .tail _ (.tail _ (.tail _ (.tail _ (.tail _ (.tail _ (.tail _ (.tail _ (hsub _ (hln4 h)))))))))
      refine stop_in ?_
      refine ih (h₀ := g') (L := L') ln pr a here tx th lk lvs le pv n1 pg1 B' F5 X' N5 T' rfl rfl (by exact room_r1 hdp (by decide)) (by exact room_r1 hun (by decide)) (hin hln) (hlk.mono fun p hp => hin hp) hl10 (hin hpr) hpv hb1 ?_
      intro R h6 tk6 a6 b6 F6 N6 lR
      k_steps
      rename Fr _ _ _ _ => F9
      rename News _ _ _ _ => N9
      refine turnEnd_mk (nw := (R, tup [.int (n1 : Nat) a6, .str (S pg1) b6]) :: nw) F9 hoC5 (news_sub N9 (sub_cons mem_1 (sub_cons mem_2 (sub_cons mem_3 (sub_cons mem_0 sub_9))))) (⟨⟨Nat.ne_of_gt (lR (I, oI) (.head _)), Nat.ne_of_gt (lR (C, oC5) (.tail _ (.head _))), Nat.ne_of_gt (lR (D, lst ys) (.tail _ (.tail _ (.head _))))⟩, hoff⟩) ?zJ3
      case' zJ3 => refine J3mk _ _ _ (bi ++ [(n1, pg1)]) (fun p hp => .tail _ (hsub p hp)) ?_ ((hys.mono fun p hp => .tail _ hp).append ⟨⟨_, _, _, rfl, .head _⟩, trivial⟩)
      · rw [filt_yes ha (by wtm_at "lo")]; exact mapO_app hbi hb1
    · rename ((a : Int) = source) => hne2
      refine turnEnd_mk (nw := nw) F5 hoC5 (news_sub N5 (sub_cons mem_0 (sub_cons mem_1 (sub_cons mem_2 sub_8)))) hoff (J3mk _ _ _ bi hsub (by rw [filt_no ha (by wtm_at "lo")]; exact hbi) (by simpa using hys))
  · rintro Dc C h4 tk4 m4 yc nw F4 N4 oc1 hn4 hC0 hD0 hCL hDL hCD offC JJ
    refine J3el _ _ _ _ ?_ JJ
    clear JJ
    rintro bi hsub hbi hyc
    have hall : (beside lk here).take (yas ++ ybs).toArray.size = beside lk here := by
      rw [List.take_of_length_le]
      rw [List.size_toArray, hbe.length, NI_len]; exact Nat.le_refl _
    rw [hall] at hbi
    obtain rfl : bi = br := Option.some.inj (hbi.symm.trans hbr)
    intro h6 hs6
    obtain ⟨F6, N6⟩ := fin_E' F4 N4 hC0 hCL hCD offC hs6
    clear F4 N4 K
    try k_fold
    k_steps
    refine stop_in (sorted_pages F6 N6 (.head _) (hyc.mono fun p hp => .tail _ hp) hout ?_)
    intro R e8 ws h8 F8 N8 lR hws
    k_steps
    rename Fr _ _ _ _ => FA
    rename News _ _ _ _ => NA
    refine stop_in ?_
    refine my_For (GB := fun g => s0g = g) (h₀ := g') ?_
    k_steps
    rename Fr _ _ _ _ => FB
    rename News _ _ _ _ => NB
    refine iter_list rfl ⟨_, (NB _ (.head _)).1, rfl, _, rfl⟩ FB NB ?_
    intro I h9 hltI K
    refine (fun (zk : ∀ (J4 : Nat → (Str → Option Value) → List (Addr × Obj) → Prop), (∀ (i : Nat) (m' : Str → Option Value) (nw' : List (Addr × Obj)) (q : Nat) (t : Tok), (nw' = (R, W.listOf ws.toArray e8) :: (Dc, lst yc) :: nw) → (m' (Str.ofString "branches") = some (.ref R)) → (m' (Str.ofString "number") = some (.int q t)) → (numO 1 (out.take i) = some q) → J4 i m' nw') → (∀ (i : Nat) (m' : Str → Option Value) (nw' : List (Addr × Obj)) (zG : Prop), (∀ (q : Nat) (t : Tok), (nw' = (R, W.listOf ws.toArray e8) :: (Dc, lst yc) :: nw) → (m' (Str.ofString "branches") = some (.ref R)) → (m' (Str.ofString "number") = some (.int q t)) → (numO 1 (out.take i) = some q) → zG) → J4 i m' nw' → zG) → _) => zk (fun i m' nw' => ∀ zG : Prop, (∀ (q : Nat) (t : Tok), (nw' = (R, W.listOf ws.toArray e8) :: (Dc, lst yc) :: nw) → (m' (Str.ofString "branches") = some (.ref R)) → (m' (Str.ofString "number") = some (.int q t)) → (numO 1 (out.take i) = some q) → zG) → zG) (fun i m' nw' q t zh0 zh1 zh2 zh3 _ zk => zk q t zh0 zh1 zh2 zh3) (fun i m' nw' zG zk zh => zh zG zk)) ?_; intro J4 J4mk J4el
    refine forAt_S J4 K
      (fun m' => stable_list (fun i nw h => by refine J4el _ _ _ _ ?_ h; rintro q t rfl; intros; exact .inr ⟨_, .head _, rfl, _, rfl⟩)) (J4mk _ _ _ 1 _ rfl (by ((try dsimp only); (repeat (first | exact if_pos rfl | with_reducible assumption | (refine (if_neg ?_).trans ?_; focus decide))); try rfl)) (by ((try dsimp only); (repeat (first | exact if_pos rfl | with_reducible assumption | (refine (if_neg ?_).trans ?_; focus decide))); try rfl)) rfl) ?_ ?_
    · rintro i v m1 nw1 oI h10 tk10 hi hP JJ
      refine J4el _ _ _ _ ?_ JJ
      clear JJ
      rintro q tq rfl eb en hq F10 N10 off10 hst10
      show (let zG : Prop := _; zG)
      intro zG
      obtain ⟨b, hb, t, ta, tb, rfl, hm⟩ := hws.get (i := i) (v := v) (by simpa using hP)
      obtain ⟨hb1, p, hp⟩ := numO_get hn b (List.mem_of_getElem? hb)
      replace N10 : News g' L' h10 ((I, oI) :: (t, tup [.int (b.1 : Nat) ta, .str (S b.2) tb]) :: (L' + 1 + 1 + 1 + 1, o1) :: (R, W.listOf ws.toArray e8) :: (Dc, lst yc) :: nw) := news_sub N10 (sub_cons mem_0 (sub_cons (lift_2 hm) (sub_cons (lift_3 (hsub _ mem_1)) sub_1)))
      (try k_unmd); k_unfold
      refine wpAny_letOwnedTupleGo_listiter hst10.1 ?_
      k_steps
      have hp100 := prime_lt hp
      obtain ⟨tp, hpi⟩ := int_get hpv (primesI_get hp)
      rename News _ _ _ _ => N11
      refine stop_in (item_tup (k := b.1 - 1) N11 (.tail _ (.tail _ (.tail _ (.tail _ (.tail _ (hsub _ (hln4 hpr))))))) (by wtm_at "lo") hpi (by rw [hpv.length]; decide) ?_)
      k_steps
      rename Fr _ _ _ _ => F12
      rename News _ _ _ _ => N12
      refine' forEnd_mk (nw := (R, W.listOf ws.toArray e8) :: (Dc, lst yc) :: nw) F12 (news_sub N12 (sub_cons mem_0 (sub_cons mem_3 (sub_cons mem_4 sub_5)))) off10 (J4mk _ _ _ (q * p) _ rfl ?gk1 ?gk2 ?gk3)
      case gk1 => ((try dsimp only); (repeat (first | exact if_pos rfl | with_reducible assumption | (refine (if_neg ?_).trans ?_; focus decide))); try rfl)
      case gk2 => (rw [Int.natCast_mul]; ((try dsimp only); (repeat (first | exact if_pos rfl | with_reducible assumption | (refine (if_neg ?_).trans ?_; focus decide))); try rfl))
      case gk3 => (rw [List.take_add_one, hb]; exact numO_app hq hb1 hp)
    · rintro h10 tk10 m1 nw1 F10 N10 JJ
      refine J4el _ _ _ _ ?_ JJ
      clear JJ
      rintro q tq rfl eb en hq
      have hout2 : out.take ws.toArray.size = out := by
        rw [List.take_of_length_le]; rw [List.size_toArray, hws.length]; exact Nat.le_refl _
      rw [hout2] at hq
      obtain rfl : q = n := Option.some.inj (hq.symm.trans hn)
      k_steps
      refine stop_in ?_
      rename Fr _ _ _ _ => FA; rename News _ _ _ _ => NA; refine' c_letters q tq (h₀ := g') (L := L') B' FA X' NA T' ?uhf ?uhke ?uhdp ?uhun (by wtm_at "lo") ?uret; (case uhf => exact rfl); (case uhke => exact rfl); (case uhdp => (first | assumption | wtm_at "rm" | (simp only [depth_under_make, depth_under_kw, depth_in1, depth_deeper, recursionLimit] at *; wtm_at "lo") | wtm_at "lo")); (case uhun => (first | assumption | wtm_at "rm" | (have hcL9 := cLine_is; simp only [units_in1, units_deeper, Around.mark_units] at *; wtm_at "lo"))); clear FA NA
      intro nx2 h11 tk11 t11 F11 N11
      k_steps
      have hlen : (letters q).length ≤ 1000 := by
        refine Nat.le_trans ?_ hl2
        unfold pageOf; simp only [List.length_append]; wtm_at "lo"
      refine stop_in (add_S sq_lt rfl (by simp only [List.length_cons, List.length_nil]; wtm_at "lo") (fun tA kA => ?_))
      k_steps
      refine stop_in (add_S rfl sq_gt (by simp only [List.length_append, List.length_cons, List.length_nil]; wtm_at "lo") (fun tB kB => ?_))
      k_steps
      rename Fr _ _ _ _ => F13
      rename News _ _ _ _ => N13
      refine stop_in ?_
      refine my_ListComp' F13 (GB := fun g => s0g = g) (cl := []) (by with_unfolding_all rfl) (by decide) (by rfl) (by decide) ?_
      k_steps
      rename Fr _ _ _ _ => FE
      rename News _ _ _ _ => NE
      refine iter_list rfl ⟨_, (NE _ (List.mem_append_right _ (.head _))).1, rfl, _, rfl⟩ FE NE ?_
      intro I h12 hltI K
      refine (fun (zk : ∀ (J5 : Nat → List Value → List (Addr × Obj) → Prop), (∀ (i : Nat) (ys : List Value) (nw' : List (Addr × Obj)) , (nw' = nx2 ++ (R, W.listOf ws.toArray e8) :: (Dc, lst yc) :: nw) → (StrsAre ys ((out.take i).map fun b => S b.2)) → J5 i ys nw') → (∀ (i : Nat) (ys : List Value) (nw' : List (Addr × Obj)) (zG : Prop), ((nw' = nx2 ++ (R, W.listOf ws.toArray e8) :: (Dc, lst yc) :: nw) → (StrsAre ys ((out.take i).map fun b => S b.2)) → zG) → J5 i ys nw' → zG) → _) => zk (fun i ys nw' => ∀ zG : Prop, ((nw' = nx2 ++ (R, W.listOf ws.toArray e8) :: (Dc, lst yc) :: nw) → (StrsAre ys ((out.take i).map fun b => S b.2)) → zG) → zG) (fun i ys nw'  zh0 zh1 _ zk => zk  zh0 zh1) (fun i ys nw' zG zk zh => zh zG zk)) ?_; intro J5 J5mk J5el
      refine compAt_S J5 K (by rw [List.size_toArray, hws.length, sizeLine_eq]; wtm_at "lo")
        (fun ys => stable_list (fun i nw h => by refine J5el _ _ _ _ ?_ h; rintro rfl -; exact .inr ⟨_, List.mem_append_right _ (.head _), rfl, _, rfl⟩)) (J5mk _ _ _ rfl .nil) ?_ ?_
      · rintro i v ys nw' oI C oC D mC h4 tk4 E' hi hP JJ
        refine J5el _ _ _ _ ?_ JJ
        clear JJ
        rintro rfl hys hoC F4 N4 hoff hne hst
        have ho := hoff.mem
        show (let zG : Prop := _; zG)
        intro zG
        obtain ⟨b, hb, t, ta, tb, rfl, hm⟩ := hws.get (i := i) (v := v) (by simpa using hP)
        (try k_unmd); k_unfold
        refine turn_pair rfl (by decide) (by decide) (by decide) rfl F4 hoC N4 hne.1 (fun p hp => ?_) hst.1 (tup2 N4 (.tail _ (.tail _ (.tail _ (List.mem_append_right _ (.tail _ hm)))))) ?_
        · rcases List.mem_cons.mp hp with rfl | hp
          · exact Ne.symm hne.2.2
          · exact (ho p hp).2.1
        intro h5 tk5 oC5 mC5 F5 hoC5 ex ey N5
        k_steps
        refine turnEnd_mk F5 hoC5 N5 hoff (J5mk _ _ _ rfl ?_)
        rw [List.take_add_one, hb, List.map_append]
        exact strs_snoc hys _ _
      · rintro D C h4 tk4 m4 ys nw' F4 N4 ob1 hn4 hC0 hD0 hCL hDL hCD offC JJ
        refine J5el _ _ _ _ ?_ JJ
        clear JJ
        rintro rfl hys
        rw [hout2] at hys
        intro h6 hs6
        obtain ⟨F6, N6⟩ := fin_E' F4 N4 hC0 hCL hCD offC hs6
        try k_fold
        k_steps
        have hmm : (out.map fun b => S b.2) = ((out.map (·.2)).map S) := by rw [List.map_map]; rfl
        have hfl : (out.map (·.2)).flatten.length ≤ 1000 := by
          refine Nat.le_trans ?_ hl2
          unfold pageOf; simp only [List.length_append]; wtm_at "lo"
        have hj : Txt.join (Str.ofString "") (out.map fun b => S b.2) = S (out.map (·.2)).flatten := by
          unfold Txt.join
          rw [PySem.StrLaws.glued_eq_join, show Str.ofString "" = Str.empty from rfl, hmm, join_S]
        refine join_list (D := D) (items := ys.toArray) (ys := (out.map fun b => S b.2)) ⟨_, (N6 _ (.head _)).1, rfl, _, rfl⟩ (by simpa using hys) ?_ (fun t' k => ?_)
        · rw [hmm, sumS]
          show _ + _ * 0 ≤ 16777216
          wtm_at "lo"
        k_steps
        refine stop_in (add_S rfl hj (by simp only [List.length_append, List.length_cons, List.length_nil]; wtm_at "lo") (fun tC kC => ?_))
        k_steps
        refine stop_in (add_S rfl sq_lts (by simp only [List.length_append, List.length_cons, List.length_nil]; wtm_at "lo") (fun tD kD => ?_))
        k_steps
        refine stop_in (add_S rfl rfl (by simp only [List.length_append, List.length_cons, List.length_nil]; wtm_at "lo") (fun tF kF' => ?_))
        k_steps
        refine stop_in (add_S rfl sq_gt (by simp only [List.length_append, List.length_cons, List.length_nil]; wtm_at "lo") (fun tG kG => ?_))
        k_steps
        rename Fr _ _ _ _ => F20
        rename News _ _ _ _ => N20
        rename (D < _ ∧ _) => l20
        have hfin : ∀ {p}, p ∈ news → p ∈ nx2 ++ (R, W.listOf ws.toArray e8) :: (Dc, lst yc) :: nw := fun h => List.mem_append_right _ (.tail _ (.tail _ (hsub _ (hln4 h))))
        subst hpg
        exact ret _ _ _ _ _ F20 (news_keep2 N20 fun p hp => hfin hp) (fun p hp => allLt_mem l20.2 p (hfin hp))
end Mine.Internal
end PartChung
set_option hygiene false in
local macro_rules | `(tactic| walk_at "binaryOp FloorDiv int int") => `(tactic| (k_here; refine floordiv_int (by wtm_at "lo") ?_ (Or.inl (PyProof.noPylong_small (by wtm_at "lo")))))
theorem Mine.Internal.fresh10 : True ∧ True := by
  w_top off
  first | (walk1; fail) | exact ⟨trivial, trivial⟩
section PartCrehung
open PySem PySem.W PyProof.Rows PyProof.Rows.LCg
namespace Mine.Internal
theorem range1_small : ∀ n : Fin 20, Builtin.Range.small 1 ((n.val : Nat) : Int) 1 = true := by decide
theorem range1_size : ∀ n : Fin 20, 1 ≤ n.val → Builtin.Range.rangeSize 1 ((n.val : Nat) : Int) 1 = ((n.val - 1 : Nat) : Int) := by decide
theorem c_rehung {w : World} {A₀ : Around} {base h₀ : Heap} {outer : List Env} {dp un : Nat} {gd : Option (List Code)} {env : Env} {L : Addr} {m : Str → Option Value} {news : List (Addr × Obj)} {loose : List Str} {mean : ExcName → Option Value} {mg mb : Str → Option Value} {s0h : Heap} {s0g : Array GenState} {s0d : Drawn} {s0t : Nat} {s0o : OsState} {Q E : Value → Shared → Prop} (ln pr : Addr) (goal n0 : Nat) (tg tn : Tok) (lk : List (Nat × Nat)) (lvs : List Value) (le : Nat) (pv : List Value) (r0 : Nat)
  (B : Below A₀ base outer h₀) (F : Fr h₀ L s0h m) (X : (hd.heap_39 w.params).In h₀) (N : News h₀ L s0h news) (T : Top topProg loose mean mg mb h₀) (hf : env.frame = some L) (hke : env.scope.kind = .function) (hdp : dp + 100 < recursionLimit) (hun : un + 800 < cLine) (hln : (ln, W.listOf lvs.toArray le) ∈ news) (hlk : LinksAt news lvs lk) (hl10 : lk.length ≤ 10)
  (hpr : (pr, tup pv) ∈ news) (hpv : IntsAre pv primesI) (hg : rehungO lk goal n0 = some r0)
  (ret : ∀ nx h' tk' a, Fr h₀ L h' m → News h₀ L h' (nx ++ news) → Q (.int (r0 : Nat) a) (Shared.mk h' s0g s0d tk' s0o)) :
  wpAny (model PySem.Challenge.rw_kl0306_01.row.prog w) (aA dp un gd env outer) (call (.ref 258) [.ref ln, .int goal tg, .int n0 tn, .ref pr]) Q E (Shared.mk s0h s0g s0d s0t s0o) := by
  have hStop0 : StopAt "call ref" := trivial
  have hStop1 : StopAt "call builtin:len" := trivial
  have hStop2 : StopAt "call type:dict" := trivial
  have hStop3 : StopAt "subscriptTail" := trivial
  have hStop4 : StopAt "exec While Compare cons nil" := trivial
  have hStop5 : StopAt "exec For Name Call cons nil" := trivial
  revert X; k_fill; intro X
  refine wpAny_call ?_
  k_dflt (refine' code_def ?k1 ?k2 ?k3 ?k4 ?k5 ?kA ?kF ?kK ?k6 ?k7 ?k8 ?k9 ?kB ?_ ?c2 ?c3 ?c4 ?c5; (case kA => exact rfl); (case kF => assumption); (case kK => assumption); (case k1 => k_asm); (case k2 => k_asm); (case k3 => k_asm); (case k4 => k_asm); (case k5 => k_asm); (case k6 => k_is); (case k7 => k_is); (case k8 => first | wtm_at "rm" | (simp only [recursionLimit] at *; wtm_at "lo")); (case k9 => exact BindsTo.of_eq rfl); (case c5 => decide); (case kB => exact locs rfl); (case c2 => exact rfl); (case c3 => exact rfl); (case c4 => exact rfl); k_whole; intro g' L' h' FG' F' N' B' X' T'; (try dsimp only); (try k_unmd); (try k_fold); (show (let zA := _; let ze := _; wpAny _ zA (execs _ ze) _ _ _)); intro zA ze; (try (refine gen_tok ?_; intro t1')); (show (let zG : Prop := _; zG)); intro zG; have F1' := F'; clear F'; obtain ⟨m1', F', em_links, em_goal, em_number, em_primes⟩ : ∃ m1 : Str → Option Value, Fr g' L' h' m1 ∧ m1 (Str.ofString "links") = some (.ref ln) ∧ m1 (Str.ofString "goal") = some (.int goal tg) ∧ m1 (Str.ofString "number") = some (.int n0 tn) ∧ m1 (Str.ofString "primes") = some (.ref pr) := ⟨_, F1', by rfl, by rfl, by rfl, by rfl⟩; clear F1'; (try k_unmd); k_unfold; (try k_unmd))
  k_steps
  refine stop_in ?_
  rename Fr _ _ _ _ => FA
  rename News _ _ _ _ => NA
  refine dict_pairs rfl FA NA hln hlk hl10 ?_
  intro d h2 tk2 o f F2 N2 ld hm hpar
  clear FA NA
  k_steps
  rename Fr _ _ _ _ => FW
  rename News _ _ _ _ => NW
  refine stop_in ?_
  show (let zG : Prop := _; zG)
  intro zG
  obtain ⟨wf, hwf, hwl, hfo⟩ : ∃ w, wayO lk 10 goal [] = some w ∧ w.length ≤ 10 ∧ foldO lk n0 w = some r0 := by
    unfold rehungO at hg
    cases hw : wayO lk 10 goal [] with
    | none => rw [hw] at hg; cases hg
    | some w =>
      rw [hw] at hg
      dsimp only at hg
      split at hg
      · exact ⟨w, rfl, by assumption, hg⟩
      · cases hg
  rename_i hx1 _ lw hx2 hl1 hx3 _
  have ow : ∀ p ∈ (d, o) :: news, p.1 ≠ lw := fun p hp => by
    rcases List.mem_cons.mp hp with rfl | hp
    · exact Nat.ne_of_lt hl1.1
    · exact Nat.ne_of_lt (allLt_mem hl1.2 p hp)
  (try k_unmd); k_unfold
  refine (fun (zk : ∀ (J0 : Nat → ((Str → Option Value)) → List (Addr × Obj) → Prop), (∀ (k : Nat) (m₁ : (Str → Option Value)) (nx : List (Addr × Obj)) (x : Nat) (r : List Nat) (t : Tok) (ws : List Value) (e : Nat), (wayO lk k x r = some wf) → (k + r.length = 10) → (nx = (lw, W.listOf (Value.int (x : Nat) t :: ws).toArray e) :: (d, o) :: news) → (IntsAre ws (NI r)) → (m₁ (Str.ofString "way") = some (.ref lw)) → (m₁ (Str.ofString "parents") = some (.ref d)) → (m₁ (Str.ofString "links") = some (.ref ln)) → (m₁ (Str.ofString "primes") = some (.ref pr)) → (m₁ (Str.ofString "number") = some (.int (n0 : Nat) tn)) → J0 k m₁ nx) → (∀ (k : Nat) (m₁ : (Str → Option Value)) (nx : List (Addr × Obj)) (zG : Prop), (∀ (x : Nat) (r : List Nat) (t : Tok) (ws : List Value) (e : Nat), (wayO lk k x r = some wf) → (k + r.length = 10) → (nx = (lw, W.listOf (Value.int (x : Nat) t :: ws).toArray e) :: (d, o) :: news) → (IntsAre ws (NI r)) → (m₁ (Str.ofString "way") = some (.ref lw)) → (m₁ (Str.ofString "parents") = some (.ref d)) → (m₁ (Str.ofString "links") = some (.ref ln)) → (m₁ (Str.ofString "primes") = some (.ref pr)) → (m₁ (Str.ofString "number") = some (.int (n0 : Nat) tn)) → zG) → J0 k m₁ nx → zG) → _) => zk (fun k m₁ nx => ∀ zG : Prop, (∀ (x : Nat) (r : List Nat) (t : Tok) (ws : List Value) (e : Nat), (wayO lk k x r = some wf) → (k + r.length = 10) → (nx = (lw, W.listOf (Value.int (x : Nat) t :: ws).toArray e) :: (d, o) :: news) → (IntsAre ws (NI r)) → (m₁ (Str.ofString "way") = some (.ref lw)) → (m₁ (Str.ofString "parents") = some (.ref d)) → (m₁ (Str.ofString "links") = some (.ref ln)) → (m₁ (Str.ofString "primes") = some (.ref pr)) → (m₁ (Str.ofString "number") = some (.int (n0 : Nat) tn)) → zG) → zG) (fun k m₁ nx x r t ws e zh0 zh1 zh2 zh3 zh4 zh5 zh6 zh7 zh8 _ zk => zk x r t ws e zh0 zh1 zh2 zh3 zh4 zh5 zh6 zh7 zh8) (fun k m₁ nx zG zk zh => zh zG zk)) ?_; intro J0 J0mk J0el
  refine' while_S J0 10 FW NW ?jw ?_
  case' jw => refine' J0mk _ _ _ goal ([]) _ ([]) _ hwf rfl rfl .nil ?z9a1 ?z9a2 ?a3 ?a4 ?a5
  case z9a1 => ((try dsimp only); (repeat (first | exact if_pos rfl | with_reducible assumption | (refine (if_neg ?_).trans ?_; focus decide))); try rfl)
  case z9a2 => ((try dsimp only); (repeat (first | exact if_pos rfl | with_reducible assumption | (refine (if_neg ?_).trans ?_; focus decide))); try rfl)
  case a3 => ((try dsimp only); (repeat (first | exact if_pos rfl | with_reducible assumption | (refine (if_neg ?_).trans ?_; focus decide))); try rfl)
  case a4 => ((try dsimp only); (repeat (first | exact if_pos rfl | with_reducible assumption | (refine (if_neg ?_).trans ?_; focus decide))); try rfl)
  case a5 => ((try dsimp only); (repeat (first | exact if_pos rfl | with_reducible assumption | (refine (if_neg ?_).trans ?_; focus decide))); try rfl)
  intro k m₁ nx h₁ tk₁ JJ F₁ N₁
  refine J0el _ _ _ _ ?_ JJ
  clear JJ
  rintro x r t ws e hw hk rfl hws e1 e2 e3 e4 e5
  clear FW NW
  k_steps
  rename News _ _ _ _ => NX
  · rename ((1 : Int) < _) => hx
    have hx' : 1 < x := by
      have h : (1 : Int) < (x : Int) := hx
      wtm_at "lo"
    show (let zG : Prop := _; zG)
    intro zG
    obtain ⟨g, y, rfl, hy, hw2⟩ := wayO_go hw hx'
    obtain ⟨ty, hfy⟩ := hpar x y hy
    (try k_unmd); k_unfold
    refine stop_in (item_map NX (.tail _ (.head _)) hm hfy ?_)
    have hlw : ws.length ≤ 10 := by rw [hws.length, NI_len]; wtm_at "lo"
    k_steps
    rename Fr _ _ _ _ => F9
    rename News _ _ _ _ => N9
    exact whlEnd_mk (n' := g) F9 N9 (by wtm_at "lo") (J0mk _ _ _ y (x :: r) _ _ _ hw2 (by rw [List.length_cons]; wtm_at "lo") rfl (.cons _ _ hws) e1 e2 e3 e4 e5)
  · rename (¬ ((1 : Int) < _)) => hx
    have hx' : ¬ 1 < x := fun h => hx (by show (1 : Int) < (x : Int); wtm_at "lo")
    have hwx : wf = x :: r := by
      cases k with
      | zero => cases hw
      | succ k => exact wayO_stop hw hx'
    subst hwx
    clear hw hwf
    rename Fr _ _ _ _ => FW
    refine stop_in ?_
    refine my_For (GB := fun g => s0g = g) (h₀ := g') ?_
    k_steps
    rename News _ _ _ _ => N5
    refine stop_in (len_lst N5 (.head _) (by rw [List.length_cons, hws.length, NI_len]; wtm_at "lo") ?_)
    intro u5 k5
    k_steps
    rename Fr _ _ _ _ => FR
    rename News _ _ _ _ => NR
    rename (IsRange _ _ _ _ _ _ _ _) => hr
    have hlr : r.length = ws.length := by rw [hws.length, NI_len]
    have hwl2 : r.length + 1 ≤ 10 := by rw [List.length_cons] at hwl; exact hwl
    have hL : (Value.int (x : Nat) t :: ws).length = r.length + 1 := by rw [List.length_cons, hlr]
    rw [hL] at hr
    refine iter_range (n := r.length) rfl hr (range1_small ⟨r.length + 1, by wtm_at "lo"⟩) (range1_size ⟨r.length + 1, by wtm_at "lo"⟩ (by simp)) FR NR ?_
    intro I2 h5 St2 hSt2 K2
    clear hr
    have hway : IntsAre (Value.int (x : Nat) t :: ws) (NI (x :: r)) := .cons _ _ hws
    refine (fun (zk : ∀ (J2 : Nat → ((Str → Option Value)) → List (Addr × Obj) → Prop), (∀ (i : Nat) (m1 : (Str → Option Value)) (nw1 : List (Addr × Obj)) (q : Nat) (tq : Tok), (nw1 = (lw, W.listOf (Value.int (x : Nat) t :: ws).toArray e) :: (d, o) :: news) → (foldO lk q ((x :: r).drop i) = some r0) → (m1 (Str.ofString "number") = some (.int (q : Nat) tq)) → (m1 (Str.ofString "way") = some (.ref lw)) → (m1 (Str.ofString "links") = some (.ref ln)) → (m1 (Str.ofString "primes") = some (.ref pr)) → J2 i m1 nw1) → (∀ (i : Nat) (m1 : (Str → Option Value)) (nw1 : List (Addr × Obj)) (zG : Prop), (∀ (q : Nat) (tq : Tok), (nw1 = (lw, W.listOf (Value.int (x : Nat) t :: ws).toArray e) :: (d, o) :: news) → (foldO lk q ((x :: r).drop i) = some r0) → (m1 (Str.ofString "number") = some (.int (q : Nat) tq)) → (m1 (Str.ofString "way") = some (.ref lw)) → (m1 (Str.ofString "links") = some (.ref ln)) → (m1 (Str.ofString "primes") = some (.ref pr)) → zG) → J2 i m1 nw1 → zG) → _) => zk (fun i m1 nw1 => ∀ zG : Prop, (∀ (q : Nat) (tq : Tok), (nw1 = (lw, W.listOf (Value.int (x : Nat) t :: ws).toArray e) :: (d, o) :: news) → (foldO lk q ((x :: r).drop i) = some r0) → (m1 (Str.ofString "number") = some (.int (q : Nat) tq)) → (m1 (Str.ofString "way") = some (.ref lw)) → (m1 (Str.ofString "links") = some (.ref ln)) → (m1 (Str.ofString "primes") = some (.ref pr)) → zG) → zG) (fun i m1 nw1 q tq zh0 zh1 zh2 zh3 zh4 zh5 _ zk => zk q tq zh0 zh1 zh2 zh3 zh4 zh5) (fun i m1 nw1 zG zk zh => zh zG zk)) ?_; intro J2 J2mk J2el
    refine forAt_S J2 K2 (fun m' => stable_local hSt2) (by exact J2mk _ _ _ n0 _ rfl hfo e5 e1 e3 e4) ?_ ?_
    · intro i v m1 nw1 oI h6 tk6 hi zq2 JJ F6 N6 off6 st6
      refine J2el _ _ _ _ ?_ JJ
      clear JJ
      rintro q tq rfl hfq e11 e12 e13 e14
      (show (let zG : Prop := _; zG); intro zG; obtain ⟨tv, rfl⟩ := zq2; (try k_unmd); k_unfold)
      show (let zG : Prop := _; zG)
      intro zG
      obtain ⟨a, b, n2, ha, hb, hs2, hf2⟩ := foldO_step hfq (by rw [List.length_cons]; wtm_at "lo")
      obtain ⟨vv, pg, p, qq, hh, hv1, hp, hq1, hp2, rfl, hv9, hq9⟩ := stepO_split hs2
      obtain ⟨tva, hva⟩ := int_get (n := (a : Int)) hway (k := i) (by unfold NI; rw [List.getElem?_map, ha]; rfl)
      obtain ⟨tvb, hvb⟩ := int_get (n := (b : Int)) hway (k := i + 1) (by unfold NI; rw [List.getElem?_map, hb]; rfl)
      (try k_unmd); k_unfold
      refine wpAny_pure ?_
      (try k_unmd); (try k_fold)
      k_steps
      have gb : (NI (x :: r)).getD (Int.toNat (1 + (i : Int))) 0 = (b : Int) := by
        have e9 : Int.toNat (1 + (i : Int)) = i + 1 := by wtm_at "lo"
        rw [e9, NI_getD, List.getD_eq_getElem?_getD, hb]; rfl
      have ga : (NI (x :: r)).getD (Int.toNat (1 + (i : Int) - 1)) 0 = (a : Int) := by
        have e9 : Int.toNat (1 + (i : Int) - 1) = i := by wtm_at "lo"
        rw [e9, NI_getD, List.getD_eq_getElem?_getD, ha]; rfl
      rw [gb, ga]
      refine stop_in ?_
      rename Fr _ _ _ _ => FA; rename News _ _ _ _ => NA; refine' c_hung 10 ln pr b a _ _ lk lvs le pv vv pg (h₀ := g') (L := L') B' FA X' NA T' ?uhf ?uhke ?uhdp ?uhun (.tail _ (.tail _ (.tail _ hln))) (hlk.mono fun p hp => .tail _ (.tail _ (.tail _ hp))) (hl10) (.tail _ (.tail _ (.tail _ hpr))) (hpv) (hh) ?uret; (case uhf => exact rfl); (case uhke => exact rfl); (case uhdp => (first | assumption | wtm_at "rm" | (simp only [depth_under_make, depth_under_kw, depth_in1, depth_deeper, recursionLimit] at *; wtm_at "lo") | wtm_at "lo")); (case uhun => (first | assumption | wtm_at "rm" | (have hcL9 := cLine_is; simp only [units_in1, units_deeper, Around.mark_units] at *; wtm_at "lo"))); clear FA NA
      intro R h7 tk7 a7 b7 F7 N7 lR
      k_steps
      have hp100 := prime_lt hp
      have hq100 := prime_lt hp2
      have hdv : (q : Int).fdiv p = ((q / p : Nat) : Int) := by rw [Int.fdiv_eq_ediv_of_nonneg _ (by wtm_at "lo")]; rfl
      have hpr5 : ∀ {x1 x2 x3 x4 : Addr × Obj}, (pr, tup pv) ∈ x1 :: x2 :: x3 :: x4 :: news := .tail _ (.tail _ (.tail _ (.tail _ hpr)))
      show (let zG : Prop := _; zG)
      intro zG
      obtain ⟨tp, hpi⟩ := int_get hpv (primesI_get hp)
      obtain ⟨tp2, hpi2⟩ := int_get hpv (primesI_get hp2)
      rename News _ _ _ _ => N11
      (try k_unmd); k_unfold
      refine stop_in (item_tup (k := vv - 1) N11 hpr5 (by wtm_at "lo") hpi (by rw [hpv.length]; decide) ?_)
      k_steps
      rename News _ _ _ _ => N12
      refine stop_in (item_tup (k := q / p - 1) N12 hpr5 (by rw [hdv]; wtm_at "lo") hpi2 (by rw [hpv.length]; decide) ?_)
      k_steps
      rename Fr _ _ _ _ => F12
      rename News _ _ _ _ => N13
      refine' forEnd_mk (nw := (lw, W.listOf (Value.int (x : Nat) t :: ws).toArray e) :: (d, o) :: news) F12 (news_sub N13 (fun p hp => ?_)) off6 ?zJ
      case' zJ => refine' J2mk _ _ _ (vv * qq) _ rfl hf2 ?gk1 ?gk2 ?gk3 ?gk4
      case gk1 => (rw [Int.natCast_mul]; ((try dsimp only); (repeat (first | exact if_pos rfl | with_reducible assumption | (refine (if_neg ?_).trans ?_; focus decide))); try rfl))
      case gk2 => ((try dsimp only); (repeat (first | exact if_pos rfl | with_reducible assumption | (refine (if_neg ?_).trans ?_; focus decide))); try rfl)
      case gk3 => ((try dsimp only); (repeat (first | exact if_pos rfl | with_reducible assumption | (refine (if_neg ?_).trans ?_; focus decide))); try rfl)
      case gk4 => ((try dsimp only); (repeat (first | exact if_pos rfl | with_reducible assumption | (refine (if_neg ?_).trans ?_; focus decide))); try rfl)
      exact .tail _ hp
    · rintro h6 tk6 m1 nw1 F6 N6 JJ
      refine J2el _ _ _ _ ?_ JJ
      clear JJ
      rintro q tq rfl hfq e11 e12 e13 e14
      have hq := foldO_end hfq (by rw [List.length_cons]; wtm_at "lo")
      subst hq
      k_steps
      rename Fr _ _ _ _ => F9
      rename News _ _ _ _ => N9
      exact ret [_, _] _ _ _ F9 N9
end Mine.Internal
end PartCrehung
set_option hygiene false in
local macro_rules | `(tactic| k_room) => `(tactic| first | wtm_at "rm" | (simp only [depth_under_make, depth_under_kw, depth_in1, depth_deeper, recursionLimit] at *; wtm_at "lo"))
local macro_rules | `(tactic| k_units) => `(tactic| first | wtm_at "rm" | (have hcL9 := cLine_is; simp only [units_in1, units_deeper, Around.mark_units] at *; wtm_at "lo"))
theorem Mine.Internal.fresh11 : True ∧ True := by
  w_top off
  first | (walk1; fail) | exact ⟨trivial, trivial⟩
section PartCtgt
open PySem PySem.W PyProof.Rows PyProof.Rows.LCg
namespace Mine.Internal
set_option hygiene false in
local macro_rules | `(tactic| walk_at "getMethod ref") => `(tactic| (k_here; (with_reducible show wpAny _ _ (getMethod (Value.ref 93) _ _) _ _ _); k_dflt (focus refine' nsmap_items ?_ ?_ ?_; rotate_right 3; k_asm; k_in)))
local macro_rules | `(tactic| walk_at "call builtin:dict.items") => `(tactic| (k_here; k_dflt (focus refine' nsmap_call ?_ ?_ ?_ ?_; rotate_right 4; k_asm; k_asm; k_in); intro D' h' F' N' l1; (try k_lt l1)))
local macro_rules | `(tactic| walk_at "call type:list") => `(tactic| (k_here; k_dflt (focus refine' nsmap_list ?_ ?_ ?_ ?_ ?_; rotate_right 5; rfl; k_asm; k_asm; k_in); intro D' o' h' tk' F' N' l1; (try k_lt l1)))
theorem news_tgt {w : World} {h₀ h : Heap} {L : Addr} {wr da ds ns pm ps : Nat} {rs rd : Bool} {t0 t1 t2 t3 t4 t5 t6 t7 t8 t9 t10 t11 t12 t13 t14 t15 t16 t17 : Tok} {en dT : Nat} {x1 x2 x3 x4 x5 x6 x7 x8 x9 x10 : Addr × Obj} {l : List (Addr × Obj)} (N : News h₀ L h (x1 :: x2 :: x3 :: x4 :: x5 :: x6 :: x7 :: x8 :: x9 :: x10 :: (dT, dictOf [{ hash := PyData.keyHash w.params (Str.ofString "_write"), key := Value.str (Str.ofString "_write") t1, val := Value.ref wr }, { hash := PyData.keyHash w.params (Str.ofString "_data"), key := Value.str (Str.ofString "_data") t2, val := Value.ref da }, { hash := PyData.keyHash w.params (Str.ofString "_with_comments"), key := Value.str (Str.ofString "_with_comments") t3, val := Value.bool false }, { hash := PyData.keyHash w.params (Str.ofString "_strip_text"), key := Value.str (Str.ofString "_strip_text") t4, val := Value.bool false }, { hash := PyData.keyHash w.params (Str.ofString "_exclude_attrs"), key := Value.str (Str.ofString "_exclude_attrs") t5, val := Value.none }, { hash := PyData.keyHash w.params (Str.ofString "_exclude_tags"), key := Value.str (Str.ofString "_exclude_tags") t6, val := Value.none }, { hash := PyData.keyHash w.params (Str.ofString "_rewrite_prefixes"), key := Value.str (Str.ofString "_rewrite_prefixes") t7, val := Value.bool false }, { hash := PyData.keyHash w.params (Str.ofString "_qname_aware_tags"), key := Value.str (Str.ofString "_qname_aware_tags") t8, val := Value.none }, { hash := PyData.keyHash w.params (Str.ofString "_find_qname_aware_attrs"), key := Value.str (Str.ofString "_find_qname_aware_attrs") t9, val := Value.none }, { hash := PyData.keyHash w.params (Str.ofString "_declared_ns_stack"), key := Value.str (Str.ofString "_declared_ns_stack") t10, val := Value.ref ds }, { hash := PyData.keyHash w.params (Str.ofString "_ns_stack"), key := Value.str (Str.ofString "_ns_stack") t11, val := Value.ref ns }, { hash := PyData.keyHash w.params (Str.ofString "_prefix_map"), key := Value.str (Str.ofString "_prefix_map") t12, val := Value.ref pm }, { hash := PyData.keyHash w.params (Str.ofString "_preserve_space"), key := Value.str (Str.ofString "_preserve_space") t13, val := Value.ref ps }, { hash := PyData.keyHash w.params (Str.ofString "_pending_start"), key := Value.str (Str.ofString "_pending_start") t14, val := Value.none }, { hash := PyData.keyHash w.params (Str.ofString "_root_seen"), key := Value.str (Str.ofString "_root_seen") t15, val := Value.bool rs }, { hash := PyData.keyHash w.params (Str.ofString "_root_done"), key := Value.str (Str.ofString "_root_done") t16, val := Value.bool rd }, { hash := PyData.keyHash w.params (Str.ofString "_ignored_depth"), key := Value.str (Str.ofString "_ignored_depth") t17, val := Value.int 0 t0 }] en) :: l)) :
    News h₀ L h ((dT, dictOf (tgtL w wr da ds ns pm ps rs rd fun i => [t0, t1, t2, t3, t4, t5, t6, t7, t8, t9, t10, t11, t12, t13, t14, t15, t16, t17].getD i 0) en) :: x6 :: x5 :: x1 :: x10 :: x9 :: x7 :: x8 :: l) :=
  news_sub N (sub_cons mem_10 (sub_cons mem_5 (sub_cons mem_4 (sub_cons mem_0 (sub_cons mem_9 (sub_cons mem_8 (sub_cons mem_6 (sub_cons mem_7 sub_11))))))))
theorem c_tgt {w : World} {A₀ : Around} {base h₀ : Heap} {outer : List Env} {dp un : Nat} {gd : Option (List Code)} {env : Env} {L : Addr} {m : Str → Option Value} {news : List (Addr × Obj)} {loose : List Str} {mean : ExcName → Option Value} {mg mb : Str → Option Value} {s0h : Heap} {s0g : Array GenState} {s0d : Drawn} {s0t : Nat} {s0o : OsState} {Q E : Value → Shared → Prop} (wr : Addr) (wo : Obj)
  (B : Below A₀ base outer h₀) (F : Fr h₀ L s0h m) (X : (hd.heap_39 w.params).In h₀) (N : News h₀ L s0h news) (T : Top topProg loose mean mg mb h₀) (hf : env.frame = some L) (hke : env.scope.kind = .function) (hdp : dp + 24 < recursionLimit) (hun : un + 300 < cLine) (hw : (wr, wo) ∈ news)
  (ret : ∀ (Ta dT da tp a0 ds ns pm ps : Nat) (rs rd : Bool) (tz : Nat → Tok) (tu tx : Tok) (en e1 e2 e3 e4 e6 : Nat) (v1 v2 : Value) h' tk', Fr h₀ L h' m →
    News h₀ L h' ((dT, dictOf (tgtL w wr da ds ns pm ps rs rd tz) en) :: (ds, W.listOf [Value.ref a0].toArray e1) :: (ns, W.listOf [v1, v2].toArray e3) :: (ps, W.listOf [Value.bool false].toArray e4) :: (Ta, instObj 199 dT) :: (da, W.listOf ([] : List Value).toArray e6) :: (a0, W.listOf [Value.ref tp].toArray e2) :: (tp, tup [.str (Str.ofString "http://www.w3.org/XML/1998/namespace") tu, .str (Str.ofString "xml") tx]) :: news) →
    (∀ p ∈ news, p.1 < dT) → dT < Ta → Ta < da → da < tp → tp < a0 → a0 < ds → ds < ns → ns < ps → Q (.ref Ta) (Shared.mk h' s0g s0d tk' s0o)) :
  wpAny (model PySem.Challenge.rw_kl0306_01.row.prog w) (aA dp un gd env outer) (call (.ref 199) [.ref wr]) Q E (Shared.mk s0h s0g s0d s0t s0o) := by
  revert X; k_fill; intro X
  refine' call_cls ?k1 ?k2 ?k3 ?k4 ?k5 ?k6 ?_
  case k1 => k_asm
  case k2 => k_asm
  case k3 => k_asm
  case k4 => k_is
  case k5 => k_is
  case k6 => k_is
  k_whole
  intro x' d' h' F' N' l1 l2
  have hl1 := l1
  (try k_lt l1)
  (try k_lt2 l2)
  k_dflt (refine' code_def ?k1 ?k2 ?k3 ?k4 ?k5 ?kA ?kF ?kK ?k6 ?k7 ?k8 ?k9 ?kB ?_ ?c2 ?c3 ?c4 ?c5; (case kA => exact rfl); (case kF => assumption); (case kK => assumption); (case k1 => k_asm); (case k2 => k_asm); (case k3 => k_asm); (case k4 => k_asm); (case k5 => k_asm); (case k6 => k_is); (case k7 => k_is); (case k8 => first | wtm_at "rm" | k_room); (case k9 => first | exact BindsTo.of_eq rfl | exact binds_K (by k_in) rfl (by k_is) rfl rfl rfl | (refine' kp_binds ?kx ?ke; (case kx => k_in); (case ke => exact fun _ => rfl))); (case c5 => decide); (case kB => exact locs rfl); (case c2 => exact rfl); (case c3 => exact rfl); (case c4 => exact rfl); k_whole; intro g' L' h' FG' F' N' B' X' T'; (try dsimp only); (try k_unmd); (try k_fold); (show (let zA := _; let ze := _; wpAny _ zA (execs _ ze) _ _ _)); intro zA ze; (try (refine gen_tok ?_; intro t1')); (show (let zG : Prop := _; zG)); intro zG; have F1' := F'; clear F'; obtain ⟨m1', F', em_self, em_write, em_with_comments, em_strip_text, em_rewrite_prefixes, em_qname_aware_tags, em_qname_aware_attrs, em_exclude_attrs, em_exclude_tags⟩ : ∃ m1 : Str → Option Value, Fr g' L' h' m1 ∧ m1 (Str.ofString "self") = some (.ref x') ∧ m1 (Str.ofString "write") = some (.ref wr) ∧ m1 (Str.ofString "with_comments") = some (.bool false) ∧ m1 (Str.ofString "strip_text") = some (.bool false) ∧ m1 (Str.ofString "rewrite_prefixes") = some (.bool false) ∧ m1 (Str.ofString "qname_aware_tags") = some (.none) ∧ m1 (Str.ofString "qname_aware_attrs") = some (.none) ∧ m1 (Str.ofString "exclude_attrs") = some (.none) ∧ m1 (Str.ofString "exclude_tags") = some (.none) := ⟨_, F1', by rfl, by rfl, by rfl, by rfl, by rfl, by rfl, by rfl, by rfl, by rfl⟩; clear F1'; (try k_unmd); k_unfold; (try k_unmd))
  k_steps
  rename News h₀ _ _ _ => NZ
  rename Fr h₀ _ _ _ => FZ
  exact ret _ _ _ _ _ _ _ _ _ _ _ _ _ _ _ _ _ _ _ _ _ _ _ _ FZ (news_tgt NZ) hl1 l2 (by first | assumption | exact And.left (by assumption) | exact And.left (And.right (by assumption)) | exact And.left (And.right (And.right (by assumption))) | exact And.left (And.right (And.right (And.right (by assumption)))) | exact And.left (And.right (And.right (And.right (And.right (by assumption))))) | exact And.left (And.right (And.right (And.right (And.right (And.right (by assumption)))))) | exact And.left (And.right (And.right (And.right (And.right (And.right (And.right (by assumption))))))) | exact And.left (And.right (And.right (And.right (And.right (And.right (And.right (And.right (by assumption)))))))) | exact And.left (And.right (And.right (And.right (And.right (And.right (And.right (And.right (And.right (by assumption))))))))) | exact And.left (And.right (And.right (And.right (And.right (And.right (And.right (And.right (And.right (And.right (by assumption)))))))))) | exact And.left (And.right (And.right (And.right (And.right (And.right (And.right (And.right (And.right (And.right (And.right (by assumption))))))))))) | exact And.left (And.right (And.right (And.right (And.right (And.right (And.right (And.right (And.right (And.right (And.right (And.right (by assumption)))))))))))) | exact And.left (And.right (And.right (And.right (And.right (And.right (And.right (And.right (And.right (And.right (And.right (And.right (And.right (by assumption))))))))))))) | exact And.left (And.right (And.right (And.right (And.right (And.right (And.right (And.right (And.right (And.right (And.right (And.right (And.right (And.right (by assumption)))))))))))))) | exact And.left (And.right (And.right (And.right (And.right (And.right (And.right (And.right (And.right (And.right (And.right (And.right (And.right (And.right (And.right (by assumption))))))))))))))) | exact And.left (And.right (And.right (And.right (And.right (And.right (And.right (And.right (And.right (And.right (And.right (And.right (And.right (And.right (And.right (And.right (by assumption)))))))))))))))) | exact And.left (And.right (And.right (And.right (And.right (And.right (And.right (And.right (And.right (And.right (And.right (And.right (And.right (And.right (And.right (And.right (And.right (by assumption))))))))))))))))) | exact And.left (And.right (And.right (And.right (And.right (And.right (And.right (And.right (And.right (And.right (And.right (And.right (And.right (And.right (And.right (And.right (And.right (And.right (by assumption)))))))))))))))))) | exact And.left (And.right (And.right (And.right (And.right (And.right (And.right (And.right (And.right (And.right (And.right (And.right (And.right (And.right (And.right (And.right (And.right (And.right (And.right (by assumption))))))))))))))))))) | exact And.left (And.right (And.right (And.right (And.right (And.right (And.right (And.right (And.right (And.right (And.right (And.right (And.right (And.right (And.right (And.right (And.right (And.right (And.right (And.right (by assumption)))))))))))))))))))) | exact And.left (And.right (And.right (And.right (And.right (And.right (And.right (And.right (And.right (And.right (And.right (And.right (And.right (And.right (And.right (And.right (And.right (And.right (And.right (And.right (And.right (by assumption))))))))))))))))))))) | exact And.left (And.right (And.right (And.right (And.right (And.right (And.right (And.right (And.right (And.right (And.right (And.right (And.right (And.right (And.right (And.right (And.right (And.right (And.right (And.right (And.right (And.right (by assumption))))))))))))))))))))))) (by first | assumption | exact And.left (by assumption) | exact And.left (And.right (by assumption)) | exact And.left (And.right (And.right (by assumption))) | exact And.left (And.right (And.right (And.right (by assumption)))) | exact And.left (And.right (And.right (And.right (And.right (by assumption))))) | exact And.left (And.right (And.right (And.right (And.right (And.right (by assumption)))))) | exact And.left (And.right (And.right (And.right (And.right (And.right (And.right (by assumption))))))) | exact And.left (And.right (And.right (And.right (And.right (And.right (And.right (And.right (by assumption)))))))) | exact And.left (And.right (And.right (And.right (And.right (And.right (And.right (And.right (And.right (by assumption))))))))) | exact And.left (And.right (And.right (And.right (And.right (And.right (And.right (And.right (And.right (And.right (by assumption)))))))))) | exact And.left (And.right (And.right (And.right (And.right (And.right (And.right (And.right (And.right (And.right (And.right (by assumption))))))))))) | exact And.left (And.right (And.right (And.right (And.right (And.right (And.right (And.right (And.right (And.right (And.right (And.right (by assumption)))))))))))) | exact And.left (And.right (And.right (And.right (And.right (And.right (And.right (And.right (And.right (And.right (And.right (And.right (And.right (by assumption))))))))))))) | exact And.left (And.right (And.right (And.right (And.right (And.right (And.right (And.right (And.right (And.right (And.right (And.right (And.right (And.right (by assumption)))))))))))))) | exact And.left (And.right (And.right (And.right (And.right (And.right (And.right (And.right (And.right (And.right (And.right (And.right (And.right (And.right (And.right (by assumption))))))))))))))) | exact And.left (And.right (And.right (And.right (And.right (And.right (And.right (And.right (And.right (And.right (And.right (And.right (And.right (And.right (And.right (And.right (by assumption)))))))))))))))) | exact And.left (And.right (And.right (And.right (And.right (And.right (And.right (And.right (And.right (And.right (And.right (And.right (And.right (And.right (And.right (And.right (And.right (by assumption))))))))))))))))) | exact And.left (And.right (And.right (And.right (And.right (And.right (And.right (And.right (And.right (And.right (And.right (And.right (And.right (And.right (And.right (And.right (And.right (And.right (by assumption)))))))))))))))))) | exact And.left (And.right (And.right (And.right (And.right (And.right (And.right (And.right (And.right (And.right (And.right (And.right (And.right (And.right (And.right (And.right (And.right (And.right (And.right (by assumption))))))))))))))))))) | exact And.left (And.right (And.right (And.right (And.right (And.right (And.right (And.right (And.right (And.right (And.right (And.right (And.right (And.right (And.right (And.right (And.right (And.right (And.right (And.right (by assumption)))))))))))))))))))) | exact And.left (And.right (And.right (And.right (And.right (And.right (And.right (And.right (And.right (And.right (And.right (And.right (And.right (And.right (And.right (And.right (And.right (And.right (And.right (And.right (And.right (by assumption))))))))))))))))))))) | exact And.left (And.right (And.right (And.right (And.right (And.right (And.right (And.right (And.right (And.right (And.right (And.right (And.right (And.right (And.right (And.right (And.right (And.right (And.right (And.right (And.right (And.right (by assumption))))))))))))))))))))))) (by first | assumption | exact And.left (by assumption) | exact And.left (And.right (by assumption)) | exact And.left (And.right (And.right (by assumption))) | exact And.left (And.right (And.right (And.right (by assumption)))) | exact And.left (And.right (And.right (And.right (And.right (by assumption))))) | exact And.left (And.right (And.right (And.right (And.right (And.right (by assumption)))))) | exact And.left (And.right (And.right (And.right (And.right (And.right (And.right (by assumption))))))) | exact And.left (And.right (And.right (And.right (And.right (And.right (And.right (And.right (by assumption)))))))) | exact And.left (And.right (And.right (And.right (And.right (And.right (And.right (And.right (And.right (by assumption))))))))) | exact And.left (And.right (And.right (And.right (And.right (And.right (And.right (And.right (And.right (And.right (by assumption)))))))))) | exact And.left (And.right (And.right (And.right (And.right (And.right (And.right (And.right (And.right (And.right (And.right (by assumption))))))))))) | exact And.left (And.right (And.right (And.right (And.right (And.right (And.right (And.right (And.right (And.right (And.right (And.right (by assumption)))))))))))) | exact And.left (And.right (And.right (And.right (And.right (And.right (And.right (And.right (And.right (And.right (And.right (And.right (And.right (by assumption))))))))))))) | exact And.left (And.right (And.right (And.right (And.right (And.right (And.right (And.right (And.right (And.right (And.right (And.right (And.right (And.right (by assumption)))))))))))))) | exact And.left (And.right (And.right (And.right (And.right (And.right (And.right (And.right (And.right (And.right (And.right (And.right (And.right (And.right (And.right (by assumption))))))))))))))) | exact And.left (And.right (And.right (And.right (And.right (And.right (And.right (And.right (And.right (And.right (And.right (And.right (And.right (And.right (And.right (And.right (by assumption)))))))))))))))) | exact And.left (And.right (And.right (And.right (And.right (And.right (And.right (And.right (And.right (And.right (And.right (And.right (And.right (And.right (And.right (And.right (And.right (by assumption))))))))))))))))) | exact And.left (And.right (And.right (And.right (And.right (And.right (And.right (And.right (And.right (And.right (And.right (And.right (And.right (And.right (And.right (And.right (And.right (And.right (by assumption)))))))))))))))))) | exact And.left (And.right (And.right (And.right (And.right (And.right (And.right (And.right (And.right (And.right (And.right (And.right (And.right (And.right (And.right (And.right (And.right (And.right (And.right (by assumption))))))))))))))))))) | exact And.left (And.right (And.right (And.right (And.right (And.right (And.right (And.right (And.right (And.right (And.right (And.right (And.right (And.right (And.right (And.right (And.right (And.right (And.right (And.right (by assumption)))))))))))))))))))) | exact And.left (And.right (And.right (And.right (And.right (And.right (And.right (And.right (And.right (And.right (And.right (And.right (And.right (And.right (And.right (And.right (And.right (And.right (And.right (And.right (And.right (by assumption))))))))))))))))))))) | exact And.left (And.right (And.right (And.right (And.right (And.right (And.right (And.right (And.right (And.right (And.right (And.right (And.right (And.right (And.right (And.right (And.right (And.right (And.right (And.right (And.right (And.right (by assumption))))))))))))))))))))))) (by first | assumption | exact And.left (by assumption) | exact And.left (And.right (by assumption)) | exact And.left (And.right (And.right (by assumption))) | exact And.left (And.right (And.right (And.right (by assumption)))) | exact And.left (And.right (And.right (And.right (And.right (by assumption))))) | exact And.left (And.right (And.right (And.right (And.right (And.right (by assumption)))))) | exact And.left (And.right (And.right (And.right (And.right (And.right (And.right (by assumption))))))) | exact And.left (And.right (And.right (And.right (And.right (And.right (And.right (And.right (by assumption)))))))) | exact And.left (And.right (And.right (And.right (And.right (And.right (And.right (And.right (And.right (by assumption))))))))) | exact And.left (And.right (And.right (And.right (And.right (And.right (And.right (And.right (And.right (And.right (by assumption)))))))))) | exact And.left (And.right (And.right (And.right (And.right (And.right (And.right (And.right (And.right (And.right (And.right (by assumption))))))))))) | exact And.left (And.right (And.right (And.right (And.right (And.right (And.right (And.right (And.right (And.right (And.right (And.right (by assumption)))))))))))) | exact And.left (And.right (And.right (And.right (And.right (And.right (And.right (And.right (And.right (And.right (And.right (And.right (And.right (by assumption))))))))))))) | exact And.left (And.right (And.right (And.right (And.right (And.right (And.right (And.right (And.right (And.right (And.right (And.right (And.right (And.right (by assumption)))))))))))))) | exact And.left (And.right (And.right (And.right (And.right (And.right (And.right (And.right (And.right (And.right (And.right (And.right (And.right (And.right (And.right (by assumption))))))))))))))) | exact And.left (And.right (And.right (And.right (And.right (And.right (And.right (And.right (And.right (And.right (And.right (And.right (And.right (And.right (And.right (And.right (by assumption)))))))))))))))) | exact And.left (And.right (And.right (And.right (And.right (And.right (And.right (And.right (And.right (And.right (And.right (And.right (And.right (And.right (And.right (And.right (And.right (by assumption))))))))))))))))) | exact And.left (And.right (And.right (And.right (And.right (And.right (And.right (And.right (And.right (And.right (And.right (And.right (And.right (And.right (And.right (And.right (And.right (And.right (by assumption)))))))))))))))))) | exact And.left (And.right (And.right (And.right (And.right (And.right (And.right (And.right (And.right (And.right (And.right (And.right (And.right (And.right (And.right (And.right (And.right (And.right (And.right (by assumption))))))))))))))))))) | exact And.left (And.right (And.right (And.right (And.right (And.right (And.right (And.right (And.right (And.right (And.right (And.right (And.right (And.right (And.right (And.right (And.right (And.right (And.right (And.right (by assumption)))))))))))))))))))) | exact And.left (And.right (And.right (And.right (And.right (And.right (And.right (And.right (And.right (And.right (And.right (And.right (And.right (And.right (And.right (And.right (And.right (And.right (And.right (And.right (And.right (by assumption))))))))))))))))))))) | exact And.left (And.right (And.right (And.right (And.right (And.right (And.right (And.right (And.right (And.right (And.right (And.right (And.right (And.right (And.right (And.right (And.right (And.right (And.right (And.right (And.right (And.right (by assumption))))))))))))))))))))))) (by first | assumption | exact And.left (by assumption) | exact And.left (And.right (by assumption)) | exact And.left (And.right (And.right (by assumption))) | exact And.left (And.right (And.right (And.right (by assumption)))) | exact And.left (And.right (And.right (And.right (And.right (by assumption))))) | exact And.left (And.right (And.right (And.right (And.right (And.right (by assumption)))))) | exact And.left (And.right (And.right (And.right (And.right (And.right (And.right (by assumption))))))) | exact And.left (And.right (And.right (And.right (And.right (And.right (And.right (And.right (by assumption)))))))) | exact And.left (And.right (And.right (And.right (And.right (And.right (And.right (And.right (And.right (by assumption))))))))) | exact And.left (And.right (And.right (And.right (And.right (And.right (And.right (And.right (And.right (And.right (by assumption)))))))))) | exact And.left (And.right (And.right (And.right (And.right (And.right (And.right (And.right (And.right (And.right (And.right (by assumption))))))))))) | exact And.left (And.right (And.right (And.right (And.right (And.right (And.right (And.right (And.right (And.right (And.right (And.right (by assumption)))))))))))) | exact And.left (And.right (And.right (And.right (And.right (And.right (And.right (And.right (And.right (And.right (And.right (And.right (And.right (by assumption))))))))))))) | exact And.left (And.right (And.right (And.right (And.right (And.right (And.right (And.right (And.right (And.right (And.right (And.right (And.right (And.right (by assumption)))))))))))))) | exact And.left (And.right (And.right (And.right (And.right (And.right (And.right (And.right (And.right (And.right (And.right (And.right (And.right (And.right (And.right (by assumption))))))))))))))) | exact And.left (And.right (And.right (And.right (And.right (And.right (And.right (And.right (And.right (And.right (And.right (And.right (And.right (And.right (And.right (And.right (by assumption)))))))))))))))) | exact And.left (And.right (And.right (And.right (And.right (And.right (And.right (And.right (And.right (And.right (And.right (And.right (And.right (And.right (And.right (And.right (And.right (by assumption))))))))))))))))) | exact And.left (And.right (And.right (And.right (And.right (And.right (And.right (And.right (And.right (And.right (And.right (And.right (And.right (And.right (And.right (And.right (And.right (And.right (by assumption)))))))))))))))))) | exact And.left (And.right (And.right (And.right (And.right (And.right (And.right (And.right (And.right (And.right (And.right (And.right (And.right (And.right (And.right (And.right (And.right (And.right (And.right (by assumption))))))))))))))))))) | exact And.left (And.right (And.right (And.right (And.right (And.right (And.right (And.right (And.right (And.right (And.right (And.right (And.right (And.right (And.right (And.right (And.right (And.right (And.right (And.right (by assumption)))))))))))))))))))) | exact And.left (And.right (And.right (And.right (And.right (And.right (And.right (And.right (And.right (And.right (And.right (And.right (And.right (And.right (And.right (And.right (And.right (And.right (And.right (And.right (And.right (by assumption))))))))))))))))))))) | exact And.left (And.right (And.right (And.right (And.right (And.right (And.right (And.right (And.right (And.right (And.right (And.right (And.right (And.right (And.right (And.right (And.right (And.right (And.right (And.right (And.right (And.right (by assumption))))))))))))))))))))))) (by first | assumption | exact And.left (by assumption) | exact And.left (And.right (by assumption)) | exact And.left (And.right (And.right (by assumption))) | exact And.left (And.right (And.right (And.right (by assumption)))) | exact And.left (And.right (And.right (And.right (And.right (by assumption))))) | exact And.left (And.right (And.right (And.right (And.right (And.right (by assumption)))))) | exact And.left (And.right (And.right (And.right (And.right (And.right (And.right (by assumption))))))) | exact And.left (And.right (And.right (And.right (And.right (And.right (And.right (And.right (by assumption)))))))) | exact And.left (And.right (And.right (And.right (And.right (And.right (And.right (And.right (And.right (by assumption))))))))) | exact And.left (And.right (And.right (And.right (And.right (And.right (And.right (And.right (And.right (And.right (by assumption)))))))))) | exact And.left (And.right (And.right (And.right (And.right (And.right (And.right (And.right (And.right (And.right (And.right (by assumption))))))))))) | exact And.left (And.right (And.right (And.right (And.right (And.right (And.right (And.right (And.right (And.right (And.right (And.right (by assumption)))))))))))) | exact And.left (And.right (And.right (And.right (And.right (And.right (And.right (And.right (And.right (And.right (And.right (And.right (And.right (by assumption))))))))))))) | exact And.left (And.right (And.right (And.right (And.right (And.right (And.right (And.right (And.right (And.right (And.right (And.right (And.right (And.right (by assumption)))))))))))))) | exact And.left (And.right (And.right (And.right (And.right (And.right (And.right (And.right (And.right (And.right (And.right (And.right (And.right (And.right (And.right (by assumption))))))))))))))) | exact And.left (And.right (And.right (And.right (And.right (And.right (And.right (And.right (And.right (And.right (And.right (And.right (And.right (And.right (And.right (And.right (by assumption)))))))))))))))) | exact And.left (And.right (And.right (And.right (And.right (And.right (And.right (And.right (And.right (And.right (And.right (And.right (And.right (And.right (And.right (And.right (And.right (by assumption))))))))))))))))) | exact And.left (And.right (And.right (And.right (And.right (And.right (And.right (And.right (And.right (And.right (And.right (And.right (And.right (And.right (And.right (And.right (And.right (And.right (by assumption)))))))))))))))))) | exact And.left (And.right (And.right (And.right (And.right (And.right (And.right (And.right (And.right (And.right (And.right (And.right (And.right (And.right (And.right (And.right (And.right (And.right (And.right (by assumption))))))))))))))))))) | exact And.left (And.right (And.right (And.right (And.right (And.right (And.right (And.right (And.right (And.right (And.right (And.right (And.right (And.right (And.right (And.right (And.right (And.right (And.right (And.right (by assumption)))))))))))))))))))) | exact And.left (And.right (And.right (And.right (And.right (And.right (And.right (And.right (And.right (And.right (And.right (And.right (And.right (And.right (And.right (And.right (And.right (And.right (And.right (And.right (And.right (by assumption))))))))))))))))))))) | exact And.left (And.right (And.right (And.right (And.right (And.right (And.right (And.right (And.right (And.right (And.right (And.right (And.right (And.right (And.right (And.right (And.right (And.right (And.right (And.right (And.right (And.right (by assumption)))))))))))))))))))))))
end Mine.Internal
end PartCtgt
theorem Mine.Internal.fresh12 : True ∧ True := by
  w_top off
  first | (walk1; fail) | exact ⟨trivial, trivial⟩
section PartCqname
open PySem PySem.W PyProof.Rows PyProof.Rows.LCg
namespace Mine.Internal
theorem c_qnameC {w : World} {A₀ : Around} {base h₀ : Heap} {outer : List Env} {dp un : Nat} {gd : Option (List Code)} {env : Env} {L : Addr} {m : Str → Option Value} {news : List (Addr × Obj)} {loose : List Str} {mean : ExcName → Option Value} {mg mb : Str → Option Value} {s0h : Heap} {s0g : Array GenState} {s0d : Drawn} {s0t : Nat} {s0o : OsState} {Q E : Value → Shared → Prop} {R0 : Result → Shared → Prop} (Ta dT a0 tp : Addr) (wr da ds ns pm ps : Addr) (rs rd : Bool) (tz : Nat → Tok) (en : Nat) (es : List Value) (e1 e2 : Nat) (tag : List Nat) (tt tu tx : Tok)
  (B : Below A₀ base outer h₀) (F : Fr h₀ L s0h m) (X : (hd.heap_39 w.params).In h₀) (N : News h₀ L s0h news) (T : Top topProg loose mean mg mb h₀) (hf : env.frame = some L) (hke : env.scope.kind = .function) (hdp : dp + 24 < recursionLimit) (hun : un + 300 < cLine) (hT : (Ta, instObj 199 dT) ∈ news) (hdT : (dT, dictOf (tgtL w wr da ds ns pm ps rs rd tz) en) ∈ news)
  (hds : (ds, W.listOf (Value.ref a0 :: es).toArray e1) ∈ news) (ha0 : (a0, W.listOf [Value.ref tp].toArray e2) ∈ news) (htp : (tp, tup [.str (Str.ofString "http://www.w3.org/XML/1998/namespace") tu, .str (Str.ofString "xml") tx]) ∈ news)
  (hes : ∀ v ∈ es, ∃ a e, v = Value.ref a ∧ (a, W.listOf ([] : List Value).toArray e) ∈ news) (hes2 : es.length ≤ 1000) (htag : 1 ≤ tag.length ∧ tag.length ≤ 100 ∧ ∀ c ∈ tag, c ≠ 123)
  (ret : ∀ R h' tk' gg a b c, BareTo s0g gg → Fr h₀ L h' m → News h₀ L h' ((R, tup [.str (S tag) a, .str (S tag) b, .str (S []) c]) :: news) → (∀ p ∈ news, p.1 < R) → R0 (.ok (.ret (.ref R))) (Shared.mk h' gg s0d tk' s0o)) :
  codeAny (model PySem.Challenge.rw_kl0306_01.row.prog w) (aA dp un gd env outer) (.call (.ref 139) ⟨[.ref Ta, .str (S tag) tt], []⟩) R0 (Shared.mk s0h s0g s0d s0t s0o) := by
  have hStop0 : StopAt "exec For Tuple Call cons nil" := trivial
  have hStop1 : StopAt "call ref" := trivial
  revert X; k_fill; intro X
  replace N : News h₀ L s0h ((Ta, instObj 199 dT) :: (dT, dictOf (tgtL w wr da ds ns pm ps rs rd tz) en) :: news) := news_sub N fun p hp => by
    rcases List.mem_cons.mp hp with rfl | hp
    · exact hT
    rcases List.mem_cons.mp hp with rfl | hp
    · exact hdT
    · exact hp
  k_dflt (refine' code_def ?k1 ?k2 ?k3 ?k4 ?k5 ?kA ?kF ?kK ?k6 ?k7 ?k8 ?k9 ?kB ?_ ?c2 ?c3 ?c4 ?c5; (case kA => exact rfl); (case kF => assumption); (case kK => assumption); (case k1 => k_asm); (case k2 => k_asm); (case k3 => k_asm); (case k4 => k_asm); (case k5 => k_asm); (case k6 => k_is); (case k7 => k_is); (case k8 => first | wtm_at "rm" | (simp only [recursionLimit] at *; wtm_at "lo")); (case k9 => first | exact BindsTo.of_eq rfl | exact binds_K (by k_in) rfl (by k_is) rfl rfl rfl | (refine' kp_binds ?kx ?ke; (case kx => k_in); (case ke => exact fun _ => rfl))); (case c5 => decide); (case kB => exact locs rfl); (case c2 => exact rfl); (case c3 => exact rfl); (case c4 => exact rfl); k_whole; intro g' L' h' FG' F' N' B' X' T'; (try dsimp only); (try k_unmd); (try k_fold); (show (let zA := _; let ze := _; wpAny _ zA (execs _ ze) _ _ _)); intro zA ze; (try (refine gen_tok ?_; intro t1')); (show (let zG : Prop := _; zG)); intro zG; have F1' := F'; clear F'; obtain ⟨m1', F', em_self, em_qname, em_uri⟩ : ∃ m1 : Str → Option Value, Fr g' L' h' m1 ∧ m1 (Str.ofString "self") = some (.ref Ta) ∧ m1 (Str.ofString "qname") = some (.str (S tag) tt) ∧ m1 (Str.ofString "uri") = some (.none) := ⟨_, F1', by rfl, by rfl, by rfl⟩; clear F1'; (try k_unmd); k_unfold; (try k_unmd))
  k_steps
  · exfalso
    rename ((_ == _) = true) => hq
    show (let zG : Prop := _; zG)
    intro zG
    obtain ⟨c, r, rfl⟩ : ∃ c r, tag = c :: r := by
      cases tag with
      | nil => exact absurd htag.1 (by simp)
      | cons c r => exact ⟨c, r, rfl⟩
    rw [slice1] at hq
    have hc := htag.2.2 c (.head _)
    have e1 : S [c] = Str.ofString "{" := by simpa using hq
    (try k_unmd); k_unfold
    rw [show Str.ofString "{" = S [123] from by decide +kernel] at e1
    have e2 := congrArg (fun x : Str => x.cps) e1
    have e3 : (#[c] : Array Nat) = #[123] := e2
    exact hc (by simpa using e3)
  · refine stop_in ?_
    refine my_ForG ?_
    k_steps
    refine stop_in ?_
    rename Fr _ _ _ _ => FA
    rename News _ _ _ _ => NA
    rename_i Dd hx1 lD hx2 hx3 _ hx4 _ Sd hx5 led hs1 hs2 lS hx6 _
    replace NA : News g' L' _ ((Sd, ({ cls := Value.type "set", data := Data.set #[] 0 (SetTable.fresh 0 0 led) } : Obj)) :: (tp, tup [.str (Str.ofString "http://www.w3.org/XML/1998/namespace") tu, .str (Str.ofString "xml") tx]) :: (Ta, instObj 199 dT) :: (dT, dictOf (tgtL w wr da ds ns pm ps rs rd tz) en) :: news) := news_sub NA fun p hp => by
      rcases List.mem_cons.mp hp with rfl | hp
      · exact .head _
      rcases List.mem_cons.mp hp with rfl | hp
      · exact .tail _ (.tail _ (.tail _ (.tail _ htp)))
      · exact .tail _ (.tail _ hp)
    refine' gen_call FA X' NA T' ?ho ?hcd ?hroom ?hbind ?hloc ?_ ?c1 ?c2 ?c3 ?c4
    case ho => k_is
    case hcd => k_is
    case hroom => k_room
    case hbind => first | exact BindsTo.of_eq rfl | exact binds_K (by k_in) rfl (by k_is) rfl rfl rfl | (refine' kp_binds ?kx ?ke; (case kx => k_in); (case ke => exact fun _ => rfl))
    case hloc => exact locs rfl
    case c1 => rfl
    case c2 => rfl
    case c3 => rfl
    case c4 => decide
    intro C oC G h3 tk3 ta3 ua3 F3 hoC N3 hnC hCG hLC hG3
    have hin : ∀ {p}, p ∈ news → p ∈ (Sd, ({ cls := Value.type "set", data := Data.set #[] 0 (SetTable.fresh 0 0 led) } : Obj)) :: (tp, tup [.str (Str.ofString "http://www.w3.org/XML/1998/namespace") tu, .str (Str.ofString "xml") tx]) :: (Ta, instObj 199 dT) :: (dT, dictOf (tgtL w wr da ds ns pm ps rs rd tz) en) :: news := fun h => .tail _ (.tail _ (.tail _ (.tail _ h)))
    have mkStk : ∀ (base : Nat) (h : Heap) (nw : List (Addr × Obj)), News g' L' h nw → (∀ p ∈ news, p ∈ nw) → (∀ p ∈ nw, p ∈ news → p.1 < base) → Stk C base ds a0 (Value.ref a0 :: es).toArray (.ref tp) es.length h := by
      intro base h nw N hsub hlt
      refine ⟨⟨Nat.ne_of_lt (hnC (ds, W.listOf (Value.ref a0 :: es).toArray e1) (hin hds)), hlt _ (hsub _ hds) hds, ⟨_, (N _ (hsub _ hds)).1, rfl, _, rfl⟩⟩, ⟨Nat.ne_of_lt (hnC (a0, W.listOf [Value.ref tp].toArray e2) (hin ha0)), hlt _ (hsub _ ha0) ha0, ⟨_, (N _ (hsub _ ha0)).1, rfl, _, rfl⟩⟩, by simp, rfl, fun i hi => ?_⟩
      show (let zG : Prop := _; zG)
      intro zG
      obtain ⟨j, hj⟩ : ∃ j, es.length - i = j + 1 := ⟨es.length - i - 1, by wtm_at "lo"⟩
      have hjl : j < es.length := by wtm_at "lo"
      obtain ⟨a, e, hv, hm⟩ := hes es[j] (List.getElem_mem hjl)
      (try k_unmd); k_unfold
      refine ⟨a, by rw [hj]; simpa [hjl] using hv, Nat.ne_of_lt (hnC (a, W.listOf ([] : List Value).toArray e) (hin hm)), hlt _ (hsub _ hm) hm, ⟨_, (N _ (hsub _ hm)).1, rfl, _, rfl⟩⟩
    refine wpAny_pyIter_gen (genObj_isGen (N3 _ (.head _)).1) ?_
    have st3 := mkStk h3.objs.size h3 _ N3 (fun p hp => List.mem_cons_of_mem _ (List.mem_cons_of_mem _ (hin hp))) (fun p hp _ => Heap.lt_size (N3 p hp).1)
    refine' gen_next1 (k := es.length) (ax := ds) (a0 := a0) (tv := .ref tp) (items := (Value.ref a0 :: es).toArray) ?b1 ?b2 ?b3 ?b4 ?b5 ?b6 (Heap.NoLimit.keeps T'.nolimit F3.keep) ?b7 F3 N3 (fun h e => genObj_isGen e) hoC (Array.getElem?_push_size) rfl hCG hnC st3 hLC ?b9 ?b10 ?_
    case b1 => rfl
    case b2 => rfl
    case b3 => rfl
    case b4 => rfl
    case b5 => rfl
    case b6 => rfl
    case b7 => k_room
    case b9 => rfl
    case b10 => rfl
    intro h4 tk4 gs' gg Ir Il oC' oI oL F4 N4 hIr hIl hgo hgg hlater
    have hb3 : h3.objs.size ≤ h3.objs.size := Nat.le_refl _
    have hbC : C < h3.objs.size := Nat.lt_trans hCG hG3
    replace hIr : h3.objs.size ≤ Ir := hIr
    replace hIl : h3.objs.size ≤ Il := hIl
    show wpAny _ _ (letOwnedTupleGo _ (.ref G) (.ref tp)) _ _ _
    refine letgo_gen (genObj_isGen (N4 _ (.tail _ (.tail _ (.tail _ (.head _))))).1) ?_
    have hlS : @LT.lt Nat _ C Ir ∧ @LT.lt Nat _ C Il := ⟨Nat.lt_of_lt_of_le hbC hIr, Nat.lt_of_lt_of_le hbC hIl⟩
    have hSC : @LT.lt Nat _ Sd C := hnC (Sd, _) (.head _)
    have hall : AllLt Sd news := lS.2.2.2
    have htpS : @LT.lt Nat _ tp Sd := allLt_mem hall _ htp
    have hTaS : @LT.lt Nat _ Ta Sd := lS.2.1
    have hdTS : @LT.lt Nat _ dT Sd := lS.2.2.1
    k_steps
    rename Fr _ _ _ _ => F5
    rename News _ _ _ _ => N5
    show wpAny _ _ (pyNext (.ref G)) _ _ _
    refine' gen_next2 ?d1 (Heap.NoLimit.keeps T'.nolimit F5.keep) ?d2 F5 N5 (fun h e => genObj_isGen e) hgg hlater ?d3 hbC (mkStk h3.objs.size _ _ N5 ?d4 (fun p hp hq => Nat.lt_trans (hnC p (hin hq)) hbC)) hLC (Nat.le_trans F5.above (Nat.le_of_lt hLC)) ?_
    case d1 => rfl
    case d2 => k_room
    case d3 =>
      intro p hp
      rcases List.mem_cons.mp hp with rfl | hp
      · exact hSC
      · exact hnC p (.tail _ hp)
    case d4 => exact fun p hp => .tail _ (.tail _ (.tail _ (.tail _ (.tail _ (.tail _ (.tail _ (.tail _ hp)))))))
    intro h6 tk6 gg6 hgo6 hgf6 F6 N6
    refine ⟨rfl, ?_⟩
    clear F5 N5
    k_steps
    rename Fr _ _ _ _ => F9
    rename News _ _ _ _ => N9
    rename (Sd < _ ∧ _) => l9
    rw [sq_nil] at N9
    exact ret _ _ _ _ _ _ _ (bareTo_gen hgo hgo6 hgf6) F9 (news_pick N9 fun p hp => .tail _ (.tail _ (.tail _ (.tail _ hp)))) (fun p hp => allLt_mem l9.2.2.2.2 p hp)
theorem c_qname {w : World} {A₀ : Around} {base h₀ : Heap} {outer : List Env} {dp un : Nat} {gd : Option (List Code)} {env : Env} {L : Addr} {m : Str → Option Value} {news : List (Addr × Obj)} {loose : List Str} {mean : ExcName → Option Value} {mg mb : Str → Option Value} {s0h : Heap} {s0g : Array GenState} {s0d : Drawn} {s0t : Nat} {s0o : OsState} {Q E : Value → Shared → Prop} (Ta dT a0 tp : Addr) (wr da ds ns pm ps : Addr) (rs rd : Bool) (tz : Nat → Tok) (en : Nat) (es : List Value) (e1 e2 : Nat) (tag : List Nat) (tt tu tx : Tok)
  (B : Below A₀ base outer h₀) (F : Fr h₀ L s0h m) (X : (hd.heap_39 w.params).In h₀) (N : News h₀ L s0h news) (T : Top topProg loose mean mg mb h₀) (hf : env.frame = some L) (hke : env.scope.kind = .function) (hdp : dp + 24 < recursionLimit) (hun : un + 300 < cLine) (hT : (Ta, instObj 199 dT) ∈ news) (hdT : (dT, dictOf (tgtL w wr da ds ns pm ps rs rd tz) en) ∈ news)
  (hds : (ds, W.listOf (Value.ref a0 :: es).toArray e1) ∈ news) (ha0 : (a0, W.listOf [Value.ref tp].toArray e2) ∈ news) (htp : (tp, tup [.str (Str.ofString "http://www.w3.org/XML/1998/namespace") tu, .str (Str.ofString "xml") tx]) ∈ news)
  (hes : ∀ v ∈ es, ∃ a e, v = Value.ref a ∧ (a, W.listOf ([] : List Value).toArray e) ∈ news) (hes2 : es.length ≤ 1000) (htag : 1 ≤ tag.length ∧ tag.length ≤ 100 ∧ ∀ c ∈ tag, c ≠ 123)
  (ret : ∀ R h' tk' gg a b c, BareTo s0g gg → Fr h₀ L h' m → News h₀ L h' ((R, tup [.str (S tag) a, .str (S tag) b, .str (S []) c]) :: news) → (∀ p ∈ news, p.1 < R) → Q (.ref R) (Shared.mk h' gg s0d tk' s0o)) :
  wpAny (model PySem.Challenge.rw_kl0306_01.row.prog w) (aA dp un gd env outer) (call (.ref 139) [.ref Ta, .str (S tag) tt]) Q E (Shared.mk s0h s0g s0d s0t s0o) :=
  wpAny_call (c_qnameC (Q := Q) (E := E) Ta dT a0 tp wr da ds ns pm ps rs rd tz en es e1 e2 tag tt tu tx B F X N T hf hke hdp hun hT hdT hds ha0 htp hes hes2 htag ret)
end Mine.Internal
end PartCqname
set_option hygiene false in
local macro_rules | `(tactic| walk_at "call builtin:list.append") => `(tactic| (k_here; k_dflt (focus refine' app_L ?_ ?_ ?_ ?_ ?_; rotate_right 5; k_asm; k_asm; k_upd; wtm_at "lenx"); intro _ _ _))
set_option hygiene false in
local macro_rules | `(tactic| walk_at "call builtin:len") => `(tactic| (k_here; k_dflt (focus refine' len_lst ?_ ?_ ?_ ?_; rotate_right 4; k_asm; k_mem; wtm_at "lenx"); intro _ _))
set_option hygiene false in
local macro_rules | `(tactic| wtm_at "lt_asm") => `(tactic| (first | assumption | wtm_at "an"))
section FastG
set_option hygiene false in
local macro_rules | `(tactic| walk_at "getAttr ref") => `(tactic| (k_here; k_dflt (focus refine' get_own ?_ ?_ ?_ ?_ ?_ ?_ ?_ ?_ ?_ ?_; rotate_right 10; k_asm; k_asm; k_inst; k_is; k_is; k_is; k_is; k_get; k_handed; k_whole)))
set_option hygiene false in
local macro_rules | `(tactic| walk_at "getMethod ref") => `(tactic| (k_here; k_dflt (focus refine' method_inst ?_ ?_ ?_ ?_ ?_ ?_ ?_ ?_; rotate_right 8; k_asm; k_asm; k_inst; k_is; k_is; k_is; k_get; k_whole)))
set_option hygiene false in
local macro_rules | `(tactic| walk_at "getMethod ref") => `(tactic| (k_here; (with_reducible first | show wpAny _ _ (getMethod _ (PySem.Str.ofString "_write") _) _ _ _ | show wpAny _ _ (getMethod _ (PySem.Str.ofString "read") _) _ _ _); k_dflt (focus refine' method_field ?_ ?_ ?_ ?_ ?_ ?_ ?_ ?_ ?_; rotate_right 9; k_asm; k_asm; k_inst; k_is; k_is; k_is; k_get; k_handed; k_whole); (try dsimp only)))
set_option hygiene false in
local macro_rules | `(tactic| walk_at "setAttr ref") => `(tactic| (k_here; k_dflt (focus refine' set_dict ?_ ?_ ?_ ?_ ?_ ?_ ?_ ?_ ?_ ?_ ?_ ?_ ?_ ?_; rotate_right 14; k_asm; k_asm; k_asm; k_inst; exact rfl; k_is; k_is; k_is; k_is; k_get; (focus first | exact put_rd .. | exact put_rs .. | exact put_ln ..); k_upd; exact Nat.le_of_ble_eq_true rfl; k_whole; intro _ _ _)))
set_option hygiene false in
local macro_rules | `(tactic| walk_at "truthy ref") => `(tactic| (k_here; (with_reducible show wpAny _ _ (truthy (Value.ref _)) _ _ _); k_dflt (focus refine' truthy_nil ?_ ?_ ?_; rotate_right 3; k_asm; k_mem; k_whole)))
section Fast
set_option hygiene false in
local macro_rules | `(tactic| walk_at "callWith ref") => `(tactic| (k_here; (with_reducible show wpAny _ _ (callWith _ (Value.ref _) _ (backTo _ (starEach (_ :: _) _)) []) _ _ _); k_dflt (focus refine' callWith_app ?_ ?_ ?_; rotate_right 3; k_asm; k_mem; k_whole)))
set_option hygiene false in
local macro_rules | `(tactic| walk_at "And") => `(tactic| ((with_reducible show BdAt _ _ _ ∧ _); k_dflt (refine ⟨bdAt_of (by k_asm) (by k_mem), ?_⟩); (try dsimp only [List.nil_append, List.cons_append])))
set_option hygiene false in
local macro_rules | `(tactic| walk_at "BdAt") => `(tactic| ((with_reducible show BdAt _ _ _); k_dflt (exact bdAt_of (by k_asm) (by k_mem))))
set_option hygiene false in
local macro_rules | `(tactic| walk_at "call ref") => `(tactic| (k_here; (with_reducible show wpAny _ _ (call (Value.ref _) [_]) _ _ _); k_dflt (focus refine' call_app ?_ ?_ ?_ ?_ ?_ ?_; rotate_right 6; k_asm; k_asm; k_mem; k_upd; wtm_at "lenx"); intro _ _ _))
theorem Mine.Internal.fresh13 : True ∧ True := by
  w_top off
  first | (walk1; fail) | exact ⟨trivial, trivial⟩
section PartCend
open PySem PySem.W PyProof.Rows PyProof.Rows.LCg
namespace Mine.Internal
set_option hygiene false in
local macro_rules | `(tactic| walk_at "call ref") => `(tactic| (k_here; (with_reducible show wpAny _ _ (call (Value.ref 139) _ _) _ _ _); refine stop_out ?_))
set_option hygiene false in
local macro_rules | `(tactic| walk_at "call builtin:list.pop") => `(tactic| (k_here; k_dflt (focus refine' pop_L (vs := _ :: _) ?_ ?_ ?_ ?_ ?_; rotate_right 5; k_asm; k_asm; k_upd; wtm_at "lenx"); intro _ _ _))
set_option hygiene false in
local macro_rules | `(tactic| walk_at "call builtin:list.pop") => `(tactic| (k_here; k_dflt (focus refine' pop_L ?_ ?_ ?_ ?_ ?_; rotate_right 5; k_asm; k_asm; k_upd; wtm_at "lenx"); intro _ _ _))
set_option maxHeartbeats 1500000 in
theorem c_end {w : World} {A₀ : Around} {base h₀ : Heap} {outer : List Env} {dp un : Nat} {gd : Option (List Code)} {env : Env} {L : Addr} {m : Str → Option Value} {news : List (Addr × Obj)} {loose : List Str} {mean : ExcName → Option Value} {mg mb : Str → Option Value} {s0h : Heap} {s0g : Array GenState} {s0d : Drawn} {s0t : Nat} {s0o : OsState} {Q E : Value → Shared → Prop} (Ta dT a0 tp da wr ds ns pm ps pc : Nat) (rs rd : Bool) (tz : Nat → Tok) (en : Nat) (es : List Value) (e1 e2 e3 e4 e5 e6 : Nat) (tag : List Nat) (tt tu tx : Tok) (nsl psl pcl : List Value) (y1 y2 y3 : Value)
  (B : Below A₀ base outer h₀) (F : Fr h₀ L s0h m) (X : (hd.heap_39 w.params).In h₀)
  (N : News h₀ L s0h ((dT, dictOf (tgtL w wr da ds ns pm ps rs rd tz) en) :: (ds, W.listOf (Value.ref a0 :: es ++ [y1]).toArray e1) :: (ns, W.listOf (nsl ++ [y2]).toArray e3) :: (ps, W.listOf (psl ++ [y3]).toArray e4) :: (pc, W.listOf pcl.toArray e5) :: news))
  (T : Top topProg loose mean mg mb h₀) (hf : env.frame = some L) (hke : env.scope.kind = .function)
  (hdp : dp + 40 < recursionLimit) (hun : un + 500 < cLine)
  (hT : (Ta, instObj 199 dT) ∈ news) (hda : (da, W.listOf ([] : List Value).toArray e6) ∈ news) (hwr : (wr, ({ cls := .type "builtin_function_or_method", data := .fields #[.builtin "list.append", .ref pc] } : Obj)) ∈ news)
  (ha0 : (a0, W.listOf [Value.ref tp].toArray e2) ∈ news) (htp : (tp, tup [.str (Str.ofString "http://www.w3.org/XML/1998/namespace") tu, .str (Str.ofString "xml") tx]) ∈ news)
  (hes : ∀ v ∈ es ++ [y1], ∃ a e, v = Value.ref a ∧ (a, W.listOf ([] : List Value).toArray e) ∈ news) (hes2 : es.length ≤ 500) (hns2 : nsl.length ≤ 500) (hps2 : psl.length ≤ 500) (hpc2 : pcl.length ≤ 500) (htag : 1 ≤ tag.length ∧ tag.length ≤ 100 ∧ ∀ c ∈ tag, c ≠ 123 ∧ c ≠ 125)
  (o1 : ∀ p ∈ news, p.1 ≠ dT) (o2 : ∀ p ∈ news, p.1 ≠ ds) (o3 : ∀ p ∈ news, p.1 ≠ ns) (o4 : ∀ p ∈ news, p.1 ≠ ps) (o5 : ∀ p ∈ news, p.1 ≠ pc)
  (hlt : pc < wr ∧ wr < dT ∧ dT < Ta ∧ Ta < da ∧ da < ds ∧ ds < ns ∧ ns < ps)
  (ret : ∀ rd2 h' tk' gg k1 e1' e3' e4' e5' en', BareTo s0g gg → Fr h₀ L h' m → News h₀ L h' ((dT, dictOf (tgtL w wr da ds ns pm ps rs rd2 tz) en') :: (ds, W.listOf (Value.ref a0 :: es).toArray e1') :: (ns, W.listOf nsl.toArray e3') :: (ps, W.listOf psl.toArray e4') :: (pc, W.listOf (pcl ++ [Value.str (S (60 :: 47 :: tag ++ [62])) k1]).toArray e5') :: news) → Q .none (Shared.mk h' gg s0d tk' s0o)) :
  wpAny (model PySem.Challenge.rw_kl0306_01.row.prog w) (aA dp un gd env outer) (call (.ref 182) [.ref Ta, .str (S tag) tt]) Q E (Shared.mk s0h s0g s0d s0t s0o) := by
  revert X; k_fill; intro X
  have hInc : Inc [pc, wr, dT, Ta, da, ds, ns, ps] := ⟨hlt.1, hlt.2.1, hlt.2.2.1, hlt.2.2.2.1, hlt.2.2.2.2.1, hlt.2.2.2.2.2.1, hlt.2.2.2.2.2.2, trivial⟩
  replace N : News h₀ L s0h ((dT, dictOf (tgtL w wr da ds ns pm ps rs rd tz) en) :: (ds, W.listOf (Value.ref a0 :: es ++ [y1]).toArray e1) :: (ns, W.listOf (nsl ++ [y2]).toArray e3) :: (ps, W.listOf (psl ++ [y3]).toArray e4) :: (pc, W.listOf pcl.toArray e5) :: (Ta, instObj 199 dT) :: (da, W.listOf ([] : List Value).toArray e6) :: (wr, ({ cls := .type "builtin_function_or_method", data := .fields #[.builtin "list.append", .ref pc] } : Obj)) :: news) := news_sub N (by wtm_at "msub")
  refine wpAny_call ?_
  k_dflt (refine' code_def ?k1 ?k2 ?k3 ?k4 ?k5 ?kA ?kF ?kK ?k6 ?k7 ?k8 ?k9 ?kB ?_ ?c2 ?c3 ?c4 ?c5; (case kA => exact rfl); (case kF => assumption); (case kK => assumption); (case k1 => k_asm); (case k2 => k_asm); (case k3 => k_asm); (case k4 => k_asm); (case k5 => k_asm); (case k6 => k_is); (case k7 => k_is); (case k8 => first | wtm_at "rm" | (simp only [recursionLimit] at *; wtm_at "lo")); (case k9 => first | exact BindsTo.of_eq rfl | exact binds_K (by k_in) rfl (by k_is) rfl rfl rfl | (refine' kp_binds ?kx ?ke; (case kx => k_in); (case ke => exact fun _ => rfl))); (case c5 => decide); (case kB => exact locs rfl); (case c2 => exact rfl); (case c3 => exact rfl); (case c4 => exact rfl); k_whole; intro g' L' h' FG' F' N' B' X' T'; (try dsimp only); (try k_unmd); (try k_fold); (show (let zA := _; let ze := _; wpAny _ zA (execs _ ze) _ _ _)); intro zA ze; (try (refine gen_tok ?_; intro t1')); (show (let zG : Prop := _; zG)); intro zG; have F1' := F'; clear F'; obtain ⟨m1', F', em_self, em_tag⟩ : ∃ m1 : Str → Option Value, Fr g' L' h' m1 ∧ m1 (Str.ofString "self") = some (.ref Ta) ∧ m1 (Str.ofString "tag") = some (.str (S tag) tt) := ⟨_, F1', by rfl, by rfl⟩; clear F1'; (try k_unmd); k_unfold; (try k_unmd))
  k_steps
  refine stop_in ?_
  rename Fr _ _ _ _ => FA
  rename News _ _ _ _ => NA
  have hin : ∀ {p}, p ∈ news → p ∈ (dT, dictOf (tgtL w wr da ds ns pm ps rs rd tz) en) :: (ds, W.listOf (Value.ref a0 :: es ++ [y1]).toArray e1) :: (ns, W.listOf (nsl ++ [y2]).toArray e3) :: (ps, W.listOf (psl ++ [y3]).toArray e4) :: (pc, W.listOf pcl.toArray e5) :: (Ta, instObj 199 dT) :: (da, W.listOf ([] : List Value).toArray e6) :: (wr, ({ cls := .type "builtin_function_or_method", data := .fields #[.builtin "list.append", .ref pc] } : Obj)) :: news := fun h => .tail _ (.tail _ (.tail _ (.tail _ (.tail _ (.tail _ (.tail _ (.tail _ h)))))))
  refine c_qname (h₀ := g') (L := L') Ta dT a0 tp wr da ds ns pm ps rs rd tz en (es ++ [y1]) e1 e2 tag tt tu tx B' FA X' NA T' rfl rfl ?r1 ?r2 (hin hT) (.head _) (.tail _ (.head _)) (hin ha0) (hin htp) (fun v hv => ?r3) (by simp; wtm_at "lo") ⟨htag.1, htag.2.1, fun c hc => (htag.2.2 c hc).1⟩ ?_
  case r1 => k_room
  case r2 => k_units
  case r3 =>
    show (let zG : Prop := _; zG)
    intro zG
    obtain ⟨a, e, h1, h2⟩ := hes v hv
    (try k_unmd); k_unfold
    exact ⟨a, e, h1, hin h2⟩
  intro R h11 tk11 gg11 ka kb kc hgg F11 N11 lR
  clear FA NA
  have hpsR : @LT.lt Nat _ ps R := lR (ps, W.listOf (psl ++ [y3]).toArray e4) (.tail _ (.tail _ (.tail _ (.head _))))
  have hRall := allLt_of lR
  have hst1 : Str.empty ++ Str.ofString "</" ++ S tag = S (60 :: 47 :: tag) := by
    rw [show Str.empty = S [] from rfl, show Str.ofString "</" = S [60, 47] from by decide +kernel, S_append, S_append]; rfl
  have hst2 : Str.empty ++ Str.ofString "</" ++ S tag ++ Str.ofString ">" = S (60 :: 47 :: tag ++ [62]) := by
    rw [hst1, show Str.ofString ">" = S [62] from by decide +kernel, S_append]
  simp only [AllLt] at hRall
  clear lR
  k_steps
  · rw [hst1, S_len]; have := sizeLine_eq; simp only [List.length_cons]; wtm_at "lo"
  · rw [hst2, S_len]; have := sizeLine_eq; simp only [List.length_cons, List.length_append, List.length_nil]; wtm_at "lo"
  · rw [hst2]
    refine joinParts_nil (M := model _ _) ?_ (by rw [S_len]; have := sizeLine_eq; simp only [List.length_cons, List.length_append, List.length_nil]; wtm_at "lo")
    k_steps
    rename Fr _ _ _ _ => F9
    rename News _ _ _ _ => N9
    exact ret _ _ _ _ _ _ _ _ _ _ hgg F9 (news_mid N9)
end Mine.Internal
end PartCend
set_option hygiene false in
local macro_rules | `(tactic| walk_at "truthy ref") => `(tactic| (k_here; (with_reducible show wpAny _ _ (truthy (Value.ref _)) _ _ _); k_dflt (focus refine' truthy_d0 ?_ ?_ ?_ ?_ ?_; rotate_right 5; k_asm; k_mem; k_asm; k_asm; k_whole)))
set_option hygiene false in
local macro_rules | `(tactic| walk_at "getMethod ref") => `(tactic| (k_here; (with_reducible show wpAny _ _ (getMethod (Value.ref _) (PySem.Str.ofString "get") _) _ _ _); k_dflt (focus refine' getm_d0 ?_ ?_ ?_ ?_; rotate_right 4; k_asm; k_mem; k_asm; k_whole)))
set_option hygiene false in
local macro_rules | `(tactic| walk_at "call builtin:dict.get") => `(tactic| (k_here; k_dflt (focus refine' get_d0 ?_ ?_ ?_ ?_ ?_; rotate_right 5; k_asm; k_mem; k_asm; k_asm; k_whole)))
set_option hygiene false in
local macro_rules | `(tactic| walk_at "subscriptTail") => `(tactic| (k_here; (with_reducible show wpAny _ _ (subscriptTail _ _ (Value.ref _) (Value.str _ _)) _ _ _); k_dflt (focus refine' item_one ?_ ?_ ?_ ?_; rotate_right 4; k_asm; k_mem; k_asm)))
set_option hygiene false in
local macro_rules | `(tactic| walk_at "subscriptTail") => `(tactic| (k_here; (with_reducible show wpAny _ _ (subscriptTail _ _ (Value.ref _) (Value.int (-1) _)) _ _ _); k_dflt (focus refine' last_lst ?_ ?_ ?_; rotate_right 3; k_asm; k_mem)))
theorem Mine.Internal.fresh14 : True ∧ True := by
  w_top off
  first | (walk1; fail) | exact ⟨trivial, trivial⟩
section PartCstart2
open PySem PySem.W PyProof.Rows PyProof.Rows.LCg
namespace Mine.Internal
set_option maxHeartbeats 2500000 in
theorem c_start2 {w : World} {A₀ : Around} {base h₀ : Heap} {outer : List Env} {dp un : Nat} {gd : Option (List Code)} {env : Env} {L : Addr} {m : Str → Option Value} {news : List (Addr × Obj)} {loose : List Str} {mean : ExcName → Option Value} {mg mb : Str → Option Value} {s0h : Heap} {s0g : Array GenState} {s0d : Drawn} {s0t : Nat} {s0o : OsState} {Q E : Value → Shared → Prop} (Ta dT a0 tp at' E1 da wr ds ns pm ps pc : Nat) (rs rd : Bool) (tz : Nat → Tok) (en : Nat) (es : List Value) (e1 e2 e3 e4 e5 e6 e7 : Nat) (tag : List Nat) (tt tu tx : Tok) (ao : Obj) (nsl psl pcl : List Value) (tb : Array Value)
  (B : Below A₀ base outer h₀) (F : Fr h₀ L s0h m) (X : (hd.heap_39 w.params).In h₀)
  (N : News h₀ L s0h ((172, tabObj tb) :: (dT, dictOf (tgtL w wr da ds ns pm ps rs rd tz) en) :: (ds, W.listOf (Value.ref a0 :: es).toArray e1) :: (ns, W.listOf nsl.toArray e3) :: (ps, W.listOf (psl ++ [Value.bool false]).toArray e4) :: (pc, W.listOf pcl.toArray e5) :: news))
  (T : Top topProg loose mean mg mb h₀) (hf : env.frame = some L) (hke : env.scope.kind = .function)
  (hdp : dp + 40 < recursionLimit) (hun : un + 500 < cLine)
  (hT : (Ta, instObj 199 dT) ∈ news) (hda : (da, W.listOf ([] : List Value).toArray e6) ∈ news) (hwr : (wr, ({ cls := .type "builtin_function_or_method", data := .fields #[.builtin "list.append", .ref pc] } : Obj)) ∈ news)
  (hE1 : (E1, W.listOf ([] : List Value).toArray e7) ∈ news) (hat : (at', ao) ∈ news) (hao : Obj.IsDictOf (PySem.strKind PySem.Challenge.rw_kl0306_01.row.prog w) ao []) (hao2 : PyProof.V.FlatPairs PyData.str [] []) (hlo : (at' == sysModules) = false)
  (ha0 : (a0, W.listOf [Value.ref tp].toArray e2) ∈ news) (htp : (tp, tup [.str (Str.ofString "http://www.w3.org/XML/1998/namespace") tu, .str (Str.ofString "xml") tx]) ∈ news)
  (hes : ∀ v ∈ es, ∃ a e, v = Value.ref a ∧ (a, W.listOf ([] : List Value).toArray e) ∈ news) (hes2 : es.length ≤ 500) (hns2 : nsl.length ≤ 500) (hps2 : psl.length ≤ 500) (hpc2 : pcl.length ≤ 500) (htag : 1 ≤ tag.length ∧ tag.length ≤ 100 ∧ ∀ c ∈ tag, c ≠ 123 ∧ c ≠ 125)
  (htb : TabOk ⟨188, 71, 188, 96⟩ (Str.ofString "C14NWriterTarget._start" ++ Str.ofString ".<locals>." ++ Str.ofString "<lambda>") tb news)
  (o0 : ∀ p ∈ news, p.1 ≠ 172) (o1 : ∀ p ∈ news, p.1 ≠ dT) (o2 : ∀ p ∈ news, p.1 ≠ ds) (o3 : ∀ p ∈ news, p.1 ≠ ns) (o4 : ∀ p ∈ news, p.1 ≠ ps) (o5 : ∀ p ∈ news, p.1 ≠ pc)
  (hlt : 172 < pc ∧ pc < wr ∧ wr < dT ∧ dT < Ta ∧ Ta < da ∧ da < ds ∧ ds < ns ∧ ns < ps ∧ ps < at' ∧ at' < E1)
  (ret : ∀ (E2 : Nat) h' tk' gg k1 k2 e3' e4' e5' en' tb' news', BareTo s0g gg → Fr h₀ L h' m → (∀ p ∈ news, p ∈ news') → (∀ p ∈ news', p ∈ news ∨ (E1 < p.1)) → TabOk ⟨188, 71, 188, 96⟩ (Str.ofString "C14NWriterTarget._start" ++ Str.ofString ".<locals>." ++ Str.ofString "<lambda>") tb' news' → News h₀ L h' ((172, tabObj tb') :: (dT, dictOf (tgtL w wr da ds ns pm ps true rd tz) en') :: (ds, W.listOf (Value.ref a0 :: es).toArray e1) :: (ns, W.listOf (nsl ++ [Value.ref E2]).toArray e3') :: (ps, W.listOf (psl ++ [Value.bool false] ++ [Value.bool false]).toArray e4') :: (pc, W.listOf (pcl ++ [Value.str (S (60 :: tag)) k1] ++ [Value.str (S [62]) k2]).toArray e5') :: news') → Q .none (Shared.mk h' gg s0d tk' s0o)) :
  wpAny (model PySem.Challenge.rw_kl0306_01.row.prog w) (aA dp un gd env outer) (call (.ref 175) [.ref Ta, .str (S tag) tt, .ref at', .ref E1]) Q E (Shared.mk s0h s0g s0d s0t s0o) := by
  have hStop0 : StopAt "binaryOp Add str str" := trivial
  have hStop1 : StopAt "eval Lambda" := trivial
  have hStop2 : StopAt "eval Set" := trivial
  have hStop3 : StopAt "setAdd" := trivial
  have hStop4 : StopAt "call builtin:sorted" := trivial
  have hStop5 : StopAt "eval DictComp" := trivial
  have hStop6 : StopAt "exec Assign cons DictComp" := trivial
  revert X; k_fill; intro X
  replace N : News h₀ L s0h ((172, tabObj tb) :: (dT, dictOf (tgtL w wr da ds ns pm ps rs rd tz) en) :: (ds, W.listOf (Value.ref a0 :: es).toArray e1) :: (ns, W.listOf nsl.toArray e3) :: (ps, W.listOf (psl ++ [Value.bool false]).toArray e4) :: (pc, W.listOf pcl.toArray e5) :: (Ta, instObj 199 dT) :: (da, W.listOf ([] : List Value).toArray e6) :: (wr, ({ cls := .type "builtin_function_or_method", data := .fields #[.builtin "list.append", .ref pc] } : Obj)) :: (at', ao) :: (E1, W.listOf ([] : List Value).toArray e7) :: news) := news_sub N (by wtm_at "msub")
  have hInc : Inc [172, pc, wr, dT, Ta, da, ds, ns, ps, at', E1] := ⟨hlt.1, hlt.2.1, hlt.2.2.1, hlt.2.2.2.1, hlt.2.2.2.2.1, hlt.2.2.2.2.2.1, hlt.2.2.2.2.2.2.1, hlt.2.2.2.2.2.2.2.1, hlt.2.2.2.2.2.2.2.2.1, hlt.2.2.2.2.2.2.2.2.2, trivial⟩
  have C172 : CodeHd h₀ 174 172 := codeHd_of_K X (by kernel_rfl)
  refine wpAny_call ?_
  k_dflt (refine' code_defC ?k1 ?k2 ?k3 ?k4 ?k5 ?kA ?kF ?kK ?k6 ?k7 ?k8 ?k9 ?kB ?kD ?_ ?c2 ?c3 ?c4; (case kA => exact rfl); (case kF => assumption); (case kK => assumption); (case k1 => k_asm); (case k2 => k_asm); (case k3 => k_asm); (case k4 => k_asm); (case k5 => k_asm); (case k6 => k_is); (case k7 => k_is); (case k8 => first | wtm_at "rm" | (simp only [recursionLimit] at *; wtm_at "lo")); (case k9 => first | exact BindsTo.of_eq rfl | exact binds_K (by k_in) rfl (by k_is) rfl rfl rfl | (refine' kp_binds ?kx ?ke; (case kx => k_in); (case ke => exact fun _ => rfl))); (case kB => exact rfl); (case kD => decide +kernel); (case c2 => exact rfl); (case c3 => exact rfl); (case c4 => exact rfl); k_whole; intro g' L' h' tk' cells' FG' F' N' Y' B' X' T' l1; (show (let zG : Prop := _; zG)); intro zG; k_cells Y'; (try simp only [List.cons_append, List.nil_append] at N'); have F1' := F'; clear F'; obtain ⟨m1', F', em_tag, em_attrs, em_new_namespaces, em_qname_text⟩ : ∃ m1 : Str → Option Value, Fr g' L' h' m1 ∧ m1 (Str.ofString "tag") = some (.str (S tag) tt) ∧ m1 (Str.ofString "attrs") = some (.ref at') ∧ m1 (Str.ofString "new_namespaces") = some (.ref E1) ∧ m1 (Str.ofString "qname_text") = some (.none) := ⟨_, F1', by rfl, by rfl, by rfl, by rfl⟩; clear F1'; (try k_unmd); k_unfold; (try dsimp only); (try k_unmd); (try k_fold); (show (let zA := _; let ze := _; wpAny _ zA (execs _ ze) _ _ _)); intro zA ze; (try k_unmd))
  rename_i oa ob dca dcb
  replace dca : oa.data = .cell none := dca.trans (by kernel_rfl)
  replace dcb : ob.data = .cell (some (.ref Ta)) := dcb.trans (by kernel_rfl)
  k_lt l1
  k_steps
  refine stop_in ?_
  rename Fr _ _ _ _ => FA
  rename News _ _ _ _ => NA
  refine' set_star FA NA X' ?hc rfl ?_
  case hc => first | k_is | kernel_rfl!
  intro D h2 led hled F2 N2 lD
  have lD0 := lD
  k_lt lD
  k_steps
  refine stop_in ?_
  rename Fr _ _ _ _ => FB
  rename News _ _ _ _ => NB
  refine setAdd_fresh (NB _ (.head _)).1 ?_
  intro h3 ts ep3 hD3 hf1 hf2 hf3 hf4 hsb
  have hled2 : w.params.followText "set-order" = true ∨ ts.led = true := by
    rw [hf4, hled]
    cases w.params.followText "set-order" <;> simp
  have F3 : Fr g' L' h3 _ := FB.change hsb (NB _ (.head _)).2.1 (NB _ (.head _)).2.2
  have N3 := news_set1 NB (fun p hp => Nat.ne_of_lt (lD0 p hp)) hsb hD3
  clear FB NB FA NA
  k_steps
  rename Fr _ _ _ _ => FB
  rename News _ _ _ _ => NB
  have hin : ∀ {p}, p ∈ news → p ∈ (L' + 1 + 1, oa) :: (L' + 1, ob) :: (172, tabObj tb) :: (dT, dictOf (tgtL w wr da ds ns pm ps rs rd tz) en) :: (ds, W.listOf (Value.ref a0 :: es).toArray e1) :: (ns, W.listOf nsl.toArray e3) :: (ps, W.listOf (psl ++ [Value.bool false]).toArray e4) :: (pc, W.listOf pcl.toArray e5) :: (Ta, instObj 199 dT) :: (da, W.listOf ([] : List Value).toArray e6) :: (wr, ({ cls := .type "builtin_function_or_method", data := .fields #[.builtin "list.append", .ref pc] } : Obj)) :: (at', ao) :: (E1, W.listOf ([] : List Value).toArray e7) :: news := fun h => .tail _ (.tail _ (.tail _ (.tail _ (.tail _ (.tail _ (.tail _ (.tail _ (.tail _ (.tail _ (.tail _ (.tail _ (.tail _ h))))))))))))
  refine star_empty (ao := ao) rfl FB NB (hin hat) hao hlo hf1 hf2 hf3 ?_
  intro h4 tk4 F4 N4
  clear FB NB
  k_steps
  refine stop_in ?_
  rename Fr _ _ _ _ => FA
  rename News _ _ _ _ => NA
  refine' my_Assign_Dict1 (h₀ := g') (L := L') (cl := _) FA rfl ?q1 ?q2 ?q3 ?q4 ?q5 ?q6 ?q7 ?q8 ?q9 ?_
  case q1 => with_unfolding_all rfl
  case q2 => with_unfolding_all rfl
  case q3 => decide
  case q4 => rfl
  case q5 => decide
  case q6 => decide
  case q7 => rfl
  case q8 => rfl
  case q9 => rfl
  k_steps
  refine stop_in ?_
  rename Fr _ _ _ _ => FC
  rename News _ _ _ _ => NC
  rename_i y1 zrd y3 zro ylo yhs yfs yhi yfi yl1 y11 y12 mq y14 lq y16 cq dcq
  refine kla_eval rfl ?_
  refine' lam_make (P := 172) (c := 174) (ps := tb) FC NC ?U1 T' (C172.keeps FG'.keep) rfl htb ?z9h1 rfl ?_
  case U1 => k_updF
  case z9h1 => (intro p hp; (repeat refine List.mem_cons_of_mem _ ?_); exact hp)
  intro f cc oc vsc tc ctv h5 tk5 F5 N5 dc1 dc2 lf lcf hcc
  have hccN : (∀ a : Nat, (∀ p ∈ news, p.1 ≠ a) → a < E1 → cc ≠ a) ∧ ((cc, oc) ∈ news ∨ E1 < cc) := by
    rcases hcc with h | h
    · exact ⟨fun a ha _ => ha _ h, .inl h⟩
    · have hE : E1 < cc := h (E1, W.listOf ([] : List Value).toArray e7) (by (repeat refine List.mem_cons_of_mem _ ?_); exact hE1)
      exact ⟨fun a _ ha => Nat.ne_of_gt (Nat.lt_trans ha hE), .inr hE⟩
  obtain ⟨news2, hn2⟩ : ∃ n2, n2 = (cc, oc) :: news := ⟨_, rfl⟩
  have hsub2 : ∀ p ∈ news, p ∈ news2 := fun p hp => by rw [hn2]; exact .tail _ hp
  have off2 : ∀ a : Nat, (∀ p ∈ news, p.1 ≠ a) → a < E1 → ∀ p ∈ news2, p.1 ≠ a := fun a ha hl p hp => by
    rw [hn2] at hp
    rcases List.mem_cons.mp hp with rfl | hp
    · exact hccN.1 a ha hl
    · exact ha p hp
  have hnew2 : ∀ p ∈ news2, p ∈ news ∨ E1 < p.1 := fun p hp => by
    rw [hn2] at hp
    rcases List.mem_cons.mp hp with rfl | hp
    · exact hccN.2
    · exact .inl hp
  have p0 := off2 172 o0 (by wtm_at "inc")
  have p1 := off2 dT o1 (by wtm_at "inc")
  have p2 := off2 ds o2 (by wtm_at "inc")
  have p3 := off2 ns o3 (by wtm_at "inc")
  have p4 := off2 ps o4 (by wtm_at "inc")
  have p5 := off2 pc o5 (by wtm_at "inc")
  have htb2 : TabOk ⟨188, 71, 188, 96⟩ (Str.ofString "C14NWriterTarget._start" ++ Str.ofString ".<locals>." ++ Str.ofString "<lambda>") #[rawInt 188, rawInt 71, .ref cc] news2 := .inr ⟨cc, oc, vsc, tc, rfl, by rw [hn2]; exact .head _, dc1, dc2⟩
  have lf2 : ∀ p ∈ news2, p.1 < f := fun p hp => by
    rw [hn2] at hp
    rcases List.mem_cons.mp hp with rfl | hp
    · exact lcf
    · exact lf p (by (repeat refine List.mem_cons_of_mem _ ?_); exact hp)
  k_lt lf
  (try dsimp only at N5)
  have N6 := news_pick (l' := (mq, methodObj (Value.ref 139) (Value.ref Ta)) :: (D, { cls := .type "set", dict := none, data := .set #[(hashStr w (S tag), Value.str (S tag) tt)] ep3 ts }) :: (L' + 1 + 1, cq) :: (L' + 1, ob) :: (172, tabObj #[rawInt 188, rawInt 71, .ref cc]) :: (dT, dictOf (tgtL w wr da ds ns pm ps rs rd tz) en) :: (ds, W.listOf (Value.ref a0 :: es).toArray e1) :: (ns, W.listOf nsl.toArray e3) :: (ps, W.listOf (psl ++ [Value.bool false]).toArray e4) :: (pc, W.listOf pcl.toArray e5) :: (Ta, instObj 199 dT) :: (da, W.listOf ([] : List Value).toArray e6) :: (wr, ({ cls := .type "builtin_function_or_method", data := .fields #[.builtin "list.append", .ref pc] } : Obj)) :: (at', ao) :: (E1, W.listOf ([] : List Value).toArray e7) :: news2) N5 (by rw [hn2]; (repeat (refine sub_cons ?_ ?_; focus wtm_at "mmd")); exact sub_17)
  clear N5 FC NC
  k_steps
  refine stop_in ?_
  show wpAny _ _ (call (.builtin "sorted") [.ref D] [(Str.ofString "key", .ref f)]) _ _ _
  rename Fr _ _ _ _ => FD
  rename News _ _ _ _ => ND
  refine sorted_key1 rfl FD ND (ND _ (.tail _ (.tail _ (.head _)))).1 hf3 hled2 ?_
  intro sa kS e8 h6 tk6 F6 N7 la lk
  have la0 := la
  k_lt la
  have hccm : (cc, oc) ∈ news2 := by rw [hn2]; exact .head _
  have N8 := news_add4 (w := (cc, oc)) N7 (by (repeat refine List.mem_cons_of_mem _ ?_); exact hccm)
  clear N7
  k_steps
  rename Fr g' L' _ _ => FE
  rename News g' L' _ _ => NE
  refine keyEnd_of FE NE (fun p hp => la0 p (.tail _ hp)) lk ?_
  intro h9 tk9 c9 F9 N9
  clear FE NE
  refine ⟨sa, _, c9, _, rfl, F9, N9, ?_⟩
  intro I Dd C oI oC mC h10 tk10 E' F10 N10 hoC hmC lI lD lC
  clear F9 N9
  have hSC : StopAt "call ref" := trivial
  k_steps
  refine stop_in ?_
  rename Fr _ _ _ _ => FA
  rename News _ _ _ _ => NA
  obtain ⟨rest, hrest⟩ : ∃ r : List (Addr × Obj), r = (sa, W.listOf #[Value.str (S tag) tt] c9) :: (mq, methodObj (Value.ref 139) (Value.ref Ta)) :: (D, { cls := .type "set", dict := none, data := .set #[(hashStr w (S tag), Value.str (S tag) tt)] ep3 ts }) :: (L' + 1 + 1, cq) :: (L' + 1, ob) :: (172, tabObj #[rawInt 188, rawInt 71, .ref cc]) :: (dT, dictOf (tgtL w wr da ds ns pm ps rs rd tz) en) :: (ds, W.listOf (Value.ref a0 :: es).toArray e1) :: (ns, W.listOf nsl.toArray e3) :: (ps, W.listOf (psl ++ [Value.bool false]).toArray e4) :: (pc, W.listOf pcl.toArray e5) :: (Ta, instObj 199 dT) :: (da, W.listOf ([] : List Value).toArray e6) :: (wr, ({ cls := .type "builtin_function_or_method", data := .fields #[.builtin "list.append", .ref pc] } : Obj)) :: (at', ao) :: (E1, W.listOf ([] : List Value).toArray e7) :: news2 := ⟨_, rfl⟩
  refine call_meth NA (by repeat (first | exact .head _ | refine .tail _ ?_)) ?_
  have hinA : ∀ {p}, p ∈ news2 → p ∈ rest := fun h => by rw [hrest]; (repeat refine List.mem_cons_of_mem _ ?_); exact h
  have hres : ∀ {p}, p ∈ rest → p ∈ (I, oI) :: (C, oC) :: (Dd, dict0) :: rest := fun h => .tail _ (.tail _ (.tail _ h))
  have hdTm : (dT, dictOf (tgtL w wr da ds ns pm ps rs rd tz) en) ∈ rest := by rw [hrest]; wtm_at "mm"
  have hdsm : (ds, W.listOf (Value.ref a0 :: es).toArray e1) ∈ rest := by rw [hrest]; wtm_at "mm"
  rw [← hrest] at NA lI
  refine c_qnameC (Q := fun _ _ => True) (E := fun _ _ => True) (h₀ := g') (L := L') Ta dT a0 tp wr da ds ns pm ps rs rd tz en es e1 e2 tag tt tu tx B' FA X' NA T' rfl rfl ?r1 ?r2 (hres (hinA (hsub2 _ hT))) (hres hdTm) (hres hdsm) (hres (hinA (hsub2 _ ha0))) (hres (hinA (hsub2 _ htp))) (fun v hv => ?r3) (by wtm_at "inc") ⟨htag.1, htag.2.1, fun c hc => (htag.2.2 c hc).1⟩ ?_
  case r1 => k_room
  case r2 => k_units
  case r3 =>
    show (let zG : Prop := _; zG)
    intro zG
    obtain ⟨a, e, h1, h2⟩ := hes v hv
    (try k_unmd); k_unfold
    exact ⟨a, e, h1, hres (hinA (hsub2 _ h2))⟩
  intro R1 h11 tk11 gg11 ka kb kc hgg F11 N11 lR
  have nRD : R1 ≠ Dd := Nat.ne_of_gt (lR (Dd, dict0) (.tail _ (.tail _ (.head _))))
  have N12 : News g' L' h11 ((Dd, dict0) :: (R1, tup [.str (S tag) ka, .str (S tag) kb, .str (S []) kc]) :: (I, oI) :: (C, oC) :: rest) := news_sub N11 (by wtm_at "msub")
  refine dictSet_new F11 N12 (fun p hp => ?_) ?_
  · simp only [List.mem_cons] at hp
    rcases hp with h | h | h | h
    · rw [h]; exact nRD
    · rw [h]; exact Nat.ne_of_lt lD
    · rw [h]; exact Nat.ne_of_gt lC
    · exact Nat.ne_of_lt (Nat.lt_trans (lI p h) lD)
  intro h12 oD tk12 F12 N13 hoD
  refine fun _ zk => zk h12 tk12 gg11 oC mC ((Dd, oD) :: (R1, tup [.str (S tag) ka, .str (S tag) kb, .str (S []) kc]) :: rest) rfl F12 hoC (news_sub N13 (by wtm_at "msub")) ?_ (fun p hp => ?_) ?_
  · rw [hrest]; wtm_at "mm"
  · simp only [List.mem_cons] at hp
    rcases hp with h | h | h
    · rw [h]; exact ⟨Nat.ne_of_gt lD, Nat.ne_of_lt lC⟩
    · rw [h]; exact ⟨Nat.ne_of_gt (lR (I, oI) (.head _)), Nat.ne_of_gt (lR (C, oC) (.tail _ (.head _)))⟩
    · exact ⟨Nat.ne_of_lt (lI p h), Nat.ne_of_lt (Nat.lt_trans (lI p h) (Nat.lt_trans lD lC))⟩
  intro h13 tk13 F13 N14
  clear F12 N13 F11 N12 N11 FA NA
  clear hSC
  rw [hrest] at N14
  have hE1D : @LT.lt Nat _ E1 Dd := Nat.lt_trans (lI (E1, W.listOf ([] : List Value).toArray e7) (by rw [hrest]; wtm_at "mm")) lD
  have hDR : @LT.lt Nat _ Dd R1 := lR (Dd, dict0) (.tail _ (.tail _ (.head _)))
  replace hInc : Inc [172, pc, wr, dT, Ta, da, ds, ns, ps, at', E1, Dd, R1] := ⟨hlt.1, hlt.2.1, hlt.2.2.1, hlt.2.2.2.1, hlt.2.2.2.2.1, hlt.2.2.2.2.2.1, hlt.2.2.2.2.2.2.1, hlt.2.2.2.2.2.2.2.1, hlt.2.2.2.2.2.2.2.2.1, hlt.2.2.2.2.2.2.2.2.2, hE1D, hDR, trivial⟩
  have hn2D : AllLt Dd news2 := allLt_of fun p hp => Nat.lt_trans (lI p (hinA hp)) lD
  have N15 : News g' L' h13 ((Dd, oD) :: (R1, tup [.str (S tag) ka, .str (S tag) kb, .str (S []) kc]) :: (L' + 1, ob) :: (172, tabObj #[rawInt 188, rawInt 71, .ref cc]) :: (dT, dictOf (tgtL w wr da ds ns pm ps rs rd tz) en) :: (ds, W.listOf (Value.ref a0 :: es).toArray e1) :: (ns, W.listOf nsl.toArray e3) :: (ps, W.listOf (psl ++ [Value.bool false]).toArray e4) :: (pc, W.listOf pcl.toArray e5) :: (Ta, instObj 199 dT) :: (da, W.listOf ([] : List Value).toArray e6) :: (wr, ({ cls := .type "builtin_function_or_method", data := .fields #[.builtin "list.append", .ref pc] } : Obj)) :: (at', ao) :: (E1, W.listOf ([] : List Value).toArray e7) :: news2) := news_sub N14 (by wtm_at "msub")
  clear N14 lR lI lC nRD hinA hres hdTm hdsm la0 la lD0 lD lf lk hoC hmC
  have hSA : StopAt "exec Assign" := trivial
  k_steps
  refine stop_in ?_
  clear hSA
  have hSI : StopAt "exec If" := trivial
  k_steps
  refine stop_in ?_
  clear hSI
  have hSA : StopAt "exec Assign" := trivial
  k_steps
  refine stop_in ?_
  clear hSA
  have hSE : StopAt "exec Expr" := trivial
  k_steps
  refine stop_in ?_
  clear hSE
  k_steps
  refine stop_in (add_S sq_lt rfl (by simp only [List.length_cons, List.length_nil]; wtm_at "lo") (fun tA kA => ?_))
  k_steps
  rename News h₀ _ _ _ => NZ
  rename Fr h₀ _ _ _ => FZ
  rw [sq_gt] at NZ
  exact ret _ _ _ _ _ _ _ _ _ _ _ news2 hgg FZ hsub2 hnew2 htb2 (news_mid2 NZ)
end Mine.Internal
end PartCstart2
theorem Mine.Internal.fresh15 : True ∧ True := by
  w_top off
  first | (walk1; fail) | exact ⟨trivial, trivial⟩
section PartCstart
open PySem PySem.W PyProof.Rows PyProof.Rows.LCg
namespace Mine.Internal
set_option hygiene false in
local macro_rules | `(tactic| walk_at "execs cons") => `(tactic| (k_here; (try dsimp only); (with_reducible refine wpAny_execs_cons ?_)))
set_option hygiene false in
local macro_rules | `(tactic| walk_at "call builtin:list.append") => `(tactic| (k_here; k_dflt (focus refine' app_L (vs := _ :: _) ?_ ?_ ?_ ?_ ?_; rotate_right 5; k_asm; k_asm; k_upd; wtm_at "lenx"); intro _ _ _))
set_option hygiene false in
local macro_rules | `(tactic| walk_at "call ref") => `(tactic| (k_here; (with_reducible show wpAny _ _ (call (Value.ref 175) _ _) _ _ _); refine stop_out ?_))
set_option maxHeartbeats 2500000 in
theorem c_start {w : World} {A₀ : Around} {base h₀ : Heap} {outer : List Env} {dp un : Nat} {gd : Option (List Code)} {env : Env} {L : Addr} {m : Str → Option Value} {news : List (Addr × Obj)} {loose : List Str} {mean : ExcName → Option Value} {mg mb : Str → Option Value} {s0h : Heap} {s0g : Array GenState} {s0d : Drawn} {s0t : Nat} {s0o : OsState} {Q E : Value → Shared → Prop} (Ta dT a0 tp at' da wr ds ns pm ps pc : Nat) (rs rd : Bool) (tz : Nat → Tok) (en : Nat) (es : List Value) (e1 e2 e3 e4 e5 e6 : Nat) (tag : List Nat) (tt tu tx : Tok) (ao : Obj) (nsl psl pcl : List Value) (tb : Array Value)
  (B : Below A₀ base outer h₀) (F : Fr h₀ L s0h m) (X : (hd.heap_39 w.params).In h₀)
  (N : News h₀ L s0h ((172, tabObj tb) :: (dT, dictOf (tgtL w wr da ds ns pm ps rs rd tz) en) :: (ds, W.listOf (Value.ref a0 :: es).toArray e1) :: (ns, W.listOf nsl.toArray e3) :: (ps, W.listOf (psl ++ [Value.bool false]).toArray e4) :: (pc, W.listOf pcl.toArray e5) :: news))
  (T : Top topProg loose mean mg mb h₀) (hf : env.frame = some L) (hke : env.scope.kind = .function)
  (hdp : dp + 60 < recursionLimit) (hun : un + 700 < cLine)
  (hT : (Ta, instObj 199 dT) ∈ news) (hda : (da, W.listOf ([] : List Value).toArray e6) ∈ news) (hwr : (wr, ({ cls := .type "builtin_function_or_method", data := .fields #[.builtin "list.append", .ref pc] } : Obj)) ∈ news)
  (hat : (at', ao) ∈ news) (hao : Obj.IsDictOf (PySem.strKind PySem.Challenge.rw_kl0306_01.row.prog w) ao []) (hao2 : PyProof.V.FlatPairs PyData.str [] []) (hlo : (at' == sysModules) = false)
  (ha0 : (a0, W.listOf [Value.ref tp].toArray e2) ∈ news) (htp : (tp, tup [.str (Str.ofString "http://www.w3.org/XML/1998/namespace") tu, .str (Str.ofString "xml") tx]) ∈ news)
  (hes : ∀ v ∈ es, ∃ a e, v = Value.ref a ∧ (a, W.listOf ([] : List Value).toArray e) ∈ news) (hes2 : es.length ≤ 400) (hns2 : nsl.length ≤ 500) (hps2 : psl.length ≤ 500) (hpc2 : pcl.length ≤ 500) (htag : 1 ≤ tag.length ∧ tag.length ≤ 100 ∧ ∀ c ∈ tag, c ≠ 123 ∧ c ≠ 125)
  (htb : TabOk ⟨188, 71, 188, 96⟩ (Str.ofString "C14NWriterTarget._start" ++ Str.ofString ".<locals>." ++ Str.ofString "<lambda>") tb news)
  (o0 : ∀ p ∈ news, p.1 ≠ 172) (o1 : ∀ p ∈ news, p.1 ≠ dT) (o2 : ∀ p ∈ news, p.1 ≠ ds) (o3 : ∀ p ∈ news, p.1 ≠ ns) (o4 : ∀ p ∈ news, p.1 ≠ ps) (o5 : ∀ p ∈ news, p.1 ≠ pc)
  (hlt : 172 < pc ∧ pc < wr ∧ wr < dT ∧ dT < Ta ∧ Ta < da ∧ da < ds ∧ ds < ns ∧ ns < ps ∧ ps < at')
  (ret : ∀ (E1 E2 : Nat) h' tk' gg k1 k2 e1' e3' e4' e5' e7 en' tb' news', BareTo s0g gg → Fr h₀ L h' m → (∀ p ∈ news, p ∈ news') → (∀ p ∈ news', p ∈ news ∨ (at' < p.1)) → (E1, W.listOf ([] : List Value).toArray e7) ∈ news' → TabOk ⟨188, 71, 188, 96⟩ (Str.ofString "C14NWriterTarget._start" ++ Str.ofString ".<locals>." ++ Str.ofString "<lambda>") tb' news' → News h₀ L h' ((172, tabObj tb') :: (dT, dictOf (tgtL w wr da ds ns pm ps true rd tz) en') :: (ds, W.listOf (Value.ref a0 :: (es ++ [Value.ref E1])).toArray e1') :: (ns, W.listOf (nsl ++ [Value.ref E2]).toArray e3') :: (ps, W.listOf (psl ++ [Value.bool false] ++ [Value.bool false]).toArray e4') :: (pc, W.listOf (pcl ++ [Value.str (S (60 :: tag)) k1] ++ [Value.str (S [62]) k2]).toArray e5') :: news') → Q .none (Shared.mk h' gg s0d tk' s0o)) :
  wpAny (model PySem.Challenge.rw_kl0306_01.row.prog w) (aA dp un gd env outer) (call (.ref 169) [.ref Ta, .str (S tag) tt, .ref at']) Q E (Shared.mk s0h s0g s0d s0t s0o) := by
  revert X; k_fill; intro X
  have hInc : Inc [172, pc, wr, dT, Ta, da, ds, ns, ps, at'] := ⟨hlt.1, hlt.2.1, hlt.2.2.1, hlt.2.2.2.1, hlt.2.2.2.2.1, hlt.2.2.2.2.2.1, hlt.2.2.2.2.2.2.1, hlt.2.2.2.2.2.2.2.1, hlt.2.2.2.2.2.2.2.2, trivial⟩
  replace N : News h₀ L s0h ((dT, dictOf (tgtL w wr da ds ns pm ps rs rd tz) en) :: (ds, W.listOf (Value.ref a0 :: es).toArray e1) :: (Ta, instObj 199 dT) :: (da, W.listOf ([] : List Value).toArray e6) :: (172, tabObj tb) :: (ns, W.listOf nsl.toArray e3) :: (ps, W.listOf (psl ++ [Value.bool false]).toArray e4) :: (pc, W.listOf pcl.toArray e5) :: (at', ao) :: news) := news_sub N (by wtm_at "msub")
  refine wpAny_call ?_
  k_dflt (refine' code_def ?k1 ?k2 ?k3 ?k4 ?k5 ?kA ?kF ?kK ?k6 ?k7 ?k8 ?k9 ?kB ?_ ?c2 ?c3 ?c4 ?c5; (case kA => exact rfl); (case kF => assumption); (case kK => assumption); (case k1 => k_asm); (case k2 => k_asm); (case k3 => k_asm); (case k4 => k_asm); (case k5 => k_asm); (case k6 => k_is); (case k7 => k_is); (case k8 => first | wtm_at "rm" | (simp only [recursionLimit] at *; wtm_at "lo")); (case k9 => first | exact BindsTo.of_eq rfl | exact binds_K (by k_in) rfl (by k_is) rfl rfl rfl | (refine' kp_binds ?kx ?ke; (case kx => k_in); (case ke => exact fun _ => rfl))); (case c5 => decide); (case kB => exact locs rfl); (case c2 => exact rfl); (case c3 => exact rfl); (case c4 => exact rfl); k_whole; intro g' L' h' FG' F' N' B' X' T'; (try dsimp only); (try k_unmd); (try k_fold); (show (let zA := _; let ze := _; wpAny _ zA (execs _ ze) _ _ _)); intro zA ze; (try (refine gen_tok ?_; intro t1')); (show (let zG : Prop := _; zG)); intro zG; have F1' := F'; clear F'; obtain ⟨m1', F', em_self, em_tag, em_attrs⟩ : ∃ m1 : Str → Option Value, Fr g' L' h' m1 ∧ m1 (Str.ofString "self") = some (.ref Ta) ∧ m1 (Str.ofString "tag") = some (.str (S tag) tt) ∧ m1 (Str.ofString "attrs") = some (.ref at') := ⟨_, F1', by rfl, by rfl, by rfl⟩; clear F1'; (try k_unmd); k_unfold; (try k_unmd))
  k_steps
  refine stop_in ?_
  rename Fr _ _ _ _ => FA
  rename News _ _ _ _ => NA
  rename_i E1 _ l1 _ _ _ _ _
  have hne : AllLt E1 news := by
    show (let zG : Prop := _; zG)
    intro zG
    obtain ⟨_, _, _, _, _, _, _, _, _, z⟩ := l1
    (try k_unmd); k_unfold
    exact z
  have hE : @LT.lt Nat _ at' E1 := by
    show (let zG : Prop := _; zG)
    intro zG
    obtain ⟨_, _, _, _, _, _, _, _, z, _⟩ := l1
    (try k_unmd); k_unfold
    exact z
  have hnE : ∀ a : Nat, (∀ p ∈ news, p.1 ≠ a) → a < E1 → ∀ p ∈ (E1, W.listOf ([] : List Value).toArray 0) :: news, p.1 ≠ a := fun a ha hl p hp => by
    rcases List.mem_cons.mp hp with rfl | hp
    · exact Nat.ne_of_gt hl
    · exact ha p hp
  have hsE : ∀ p ∈ news, p ∈ (E1, W.listOf ([] : List Value).toArray 0) :: news := fun p hp => .tail _ hp
  have q0 := hnE 172 o0 (by wtm_at "inc")
  have q1 := hnE dT o1 (by wtm_at "inc")
  have q2 := hnE ds o2 (by wtm_at "inc")
  have q3 := hnE ns o3 (by wtm_at "inc")
  have q4 := hnE ps o4 (by wtm_at "inc")
  have q5 := hnE pc o5 (by wtm_at "inc")
  have N2 : News g' L' _ ((172, tabObj tb) :: (dT, dictOf (tgtL w wr da ds ns pm ps rs rd tz) en) :: (ds, W.listOf (Value.ref a0 :: (es ++ [Value.ref E1])).toArray (e1 + 1)) :: (ns, W.listOf nsl.toArray e3) :: (ps, W.listOf (psl ++ [Value.bool false]).toArray e4) :: (pc, W.listOf pcl.toArray e5) :: (E1, W.listOf ([] : List Value).toArray 0) :: news) := news_sub NA (sub_cons mem_5 (sub_cons mem_1 (sub_cons mem_2 (sub_cons mem_6 (sub_cons mem_7 (sub_cons mem_8 (sub_cons mem_0 sub_10)))))))
  clear NA
  refine c_start2 (h₀ := g') (L := L') Ta dT a0 tp at' E1 da wr ds ns pm ps pc rs rd tz en (es ++ [Value.ref E1]) (e1 + 1) e2 e3 e4 e5 e6 0 tag tt tu tx ao nsl psl pcl tb B' FA X' N2 T' ?r4 ?r5 ?r1 ?r2 (hsE _ hT) (hsE _ hda) (hsE _ hwr) (.head _) (hsE _ hat) hao hao2 hlo (hsE _ ha0) (hsE _ htp) (fun v hv => ?r3) (by simp; wtm_at "lo") hns2 hps2 hpc2 htag (htb.mono hsE) q0 q1 q2 q3 q4 q5 ⟨hlt.1, hlt.2.1, hlt.2.2.1, hlt.2.2.2.1, hlt.2.2.2.2.1, hlt.2.2.2.2.2.1, hlt.2.2.2.2.2.2.1, hlt.2.2.2.2.2.2.2.1, hlt.2.2.2.2.2.2.2.2, hE⟩ ?_
  case r4 => exact rfl
  case r5 => exact rfl
  case r1 => k_room
  case r2 => k_units
  case r3 =>
    rcases List.mem_append.mp hv with hv | hv
    · obtain ⟨a, e, h1, h2⟩ := hes v hv
      exact ⟨a, e, h1, hsE _ h2⟩
    · exact ⟨E1, 0, by simpa using hv, .head _⟩
  intro E2 h9 tk9 gg9 k1 k2 e3' e4' e5' en' tb' news' hgg F9 hs9 hn9 htb9 N9
  clear FA N2
  k_steps
  rename News h₀ _ _ _ => NZ
  rename Fr h₀ _ _ _ => FZ
  exact ret E1 _ _ _ _ _ _ _ _ _ _ _ _ _ news' hgg FZ (fun p hp => hs9 p (hsE p hp)) (fun p hp => by
    rcases hn9 p hp with h | h
    · rcases List.mem_cons.mp h with rfl | h
      · exact .inr hE
      · exact .inl h
    · exact .inr (Nat.lt_trans hE h)) (hs9 _ (.head _)) htb9 NZ
end Mine.Internal
end PartCstart
theorem Mine.Internal.fresh16 : True ∧ True := by
  w_top off
  first | (walk1; fail) | exact ⟨trivial, trivial⟩
section PartCtold
open PySem PySem.W PyProof.Rows PyProof.Rows.LCg
namespace Mine.Internal
theorem ne_flt {l : List (Addr × Obj)} {a : Nat} {q : Addr × Obj} (h : q ∈ l.filter fun q => q.1 != a) : q.1 ≠ a := by simpa using (List.mem_filter.mp h).2
set_option maxHeartbeats 2500000 in
theorem c_told : ∀ (k : Nat) {w : World} {A₀ : Around} {base h₀ : Heap} {outer : List Env} {dp un : Nat} {gd : Option (List Code)} {env : Env} {L : Addr} {m : Str → Option Value} {news : List (Addr × Obj)} {loose : List Str} {mean : ExcName → Option Value} {mg mb : Str → Option Value} {s0h : Heap} {s0g : Array GenState} {s0d : Drawn} {s0t : Nat} {s0o : OsState} {Q E : Value → Shared → Prop} (Ta dT a0 tp da wr ds ns pm ps pc nm ins : Nat) (rs rd : Bool) (tz : Nat → Tok) (en : Nat) (es : List Value) (e1 e2 e3 e4 e5 e6 e8 e9 : Nat) (tq tu tx : Tok) (nsl psl pcl nml inl : List Value) (names inside xs : List (List Nat)) (p : Nat) (tb : Array Value)
  (B : Below A₀ base outer h₀) (F : Fr h₀ L s0h m) (X : (hd.heap_39 w.params).In h₀)
  (N : News h₀ L s0h ((172, tabObj tb) :: (dT, dictOf (tgtL w wr da ds ns pm ps rs rd tz) en) :: (ds, W.listOf (Value.ref a0 :: es).toArray e1) :: (ns, W.listOf nsl.toArray e3) :: (ps, W.listOf (psl ++ [Value.bool false]).toArray e4) :: (pc, W.listOf pcl.toArray e5) :: news))
  (T : Top topProg loose mean mg mb h₀) (hf : env.frame = some L) (hke : env.scope.kind = .function)
  (hdp : dp + 70 + 4 * k < recursionLimit) (hun : un + 800 + 20 * k < cLine)
  (hT : (Ta, instObj 199 dT) ∈ news) (hda : (da, W.listOf ([] : List Value).toArray e6) ∈ news) (hwr : (wr, ({ cls := .type "builtin_function_or_method", data := .fields #[.builtin "list.append", .ref pc] } : Obj)) ∈ news)
  (ha0 : (a0, W.listOf [Value.ref tp].toArray e2) ∈ news) (htp : (tp, tup [.str (Str.ofString "http://www.w3.org/XML/1998/namespace") tu, .str (Str.ofString "xml") tx]) ∈ news)
  (hes : ∀ v ∈ es, ∃ a e, v = Value.ref a ∧ (a, W.listOf ([] : List Value).toArray e) ∈ news) (hes2 : es.length + k ≤ 300) (hns2 : nsl.length + k ≤ 300) (hps2 : psl.length + k ≤ 300) (hpc2 : pcl.length + xs.length ≤ 400)
  (htb : TabOk ⟨188, 71, 188, 96⟩ (Str.ofString "C14NWriterTarget._start" ++ Str.ofString ".<locals>." ++ Str.ofString "<lambda>") tb news)
  (o0 : ∀ p ∈ news, p.1 ≠ 172) (o1 : ∀ p ∈ news, p.1 ≠ dT) (o2 : ∀ p ∈ news, p.1 ≠ ds) (o3 : ∀ p ∈ news, p.1 ≠ ns) (o4 : ∀ p ∈ news, p.1 ≠ ps) (o5 : ∀ p ∈ news, p.1 ≠ pc)
  (hlt : 172 < pc ∧ pc < wr ∧ wr < dT ∧ dT < Ta ∧ Ta < da ∧ da < ds ∧ ds < ns ∧ ns < ps)
  (hnm : (nm, W.listOf nml.toArray e8) ∈ news) (hins : (ins, W.listOf inl.toArray e9) ∈ news) (hnames : SgsAre nml names) (hinl : InsAt news inl inside) (hw : ∀ u ∈ names, 1 ≤ u.length ∧ u.length ≤ 100 ∧ ∀ c ∈ u, c ≠ 123 ∧ c ≠ 125) (hn1 : names.length ≤ 1000) (hi1 : inside.length ≤ 1000)
  (hg : toldO names inside k p = some xs)
  (ret : ∀ h' tk' (gg : Array GenState) (rs2 rd2 : Bool) e1' e3' e4' e5' en' tb' vs news', BareTo s0g gg → Fr h₀ L h' m → (∀ q ∈ news, q ∈ news') → (∀ q ∈ news', q ∈ news ∨ (ps < q.1 ∧ ∀ r ∈ news, r.1 < q.1)) → TabOk ⟨188, 71, 188, 96⟩ (Str.ofString "C14NWriterTarget._start" ++ Str.ofString ".<locals>." ++ Str.ofString "<lambda>") tb' news' → SgsAre vs xs →
    News h₀ L h' ((172, tabObj tb') :: (dT, dictOf (tgtL w wr da ds ns pm ps rs2 rd2 tz) en') :: (ds, W.listOf (Value.ref a0 :: es).toArray e1') :: (ns, W.listOf nsl.toArray e3') :: (ps, W.listOf (psl ++ [Value.bool false]).toArray e4') :: (pc, W.listOf (pcl ++ vs).toArray e5') :: news') → Q .none (Shared.mk h' gg s0d tk' s0o)),
  wpAny (model PySem.Challenge.rw_kl0306_01.row.prog w) (aA dp un gd env outer) (call (.ref 277) [.ref Ta, .ref nm, .ref ins, .int p tq]) Q E (Shared.mk s0h s0g s0d s0t s0o) := by
  have hStop0 : StopAt "call ref" := trivial
  have hStop1 : StopAt "subscriptTail" := trivial
  have hStop2 : StopAt "exec For" := trivial
  intro k
  induction k with
  | zero => intros; rename_i hg _; cases hg
  | succ k ih => ?_
  intro w A₀ base h₀ outer dp un gd env L m news loose mean mg mb s0h s0g s0d s0t s0o Q E Ta dT a0 tp da wr ds ns pm ps pc nm ins rs rd tz en es e1 e2 e3 e4 e5 e6 e8 e9 tq tu tx nsl psl pcl nml inl names inside xs p tb B F X N T hf hke hdp hun hT hda hwr ha0 htp hes hes2 hns2 hps2 hpc2 htb o0 o1 o2 o3 o4 o5 hlt hnm hins hnames hinl hw hn1 hi1 hg ret
  show (let zG : Prop := _; zG)
  intro zG
  obtain ⟨tag, deep, mid, hwp, hdp2, hmid, hxs⟩ := told_split hg
  (try k_unmd); k_unfold
  revert X; k_fill; intro X
  replace N : News h₀ L s0h ((dT, dictOf (tgtL w wr da ds ns pm ps rs rd tz) en) :: (Ta, instObj 199 dT) :: (nm, W.listOf nml.toArray e8) :: (ins, W.listOf inl.toArray e9) :: (172, tabObj tb) :: (ds, W.listOf (Value.ref a0 :: es).toArray e1) :: (ns, W.listOf nsl.toArray e3) :: (ps, W.listOf (psl ++ [Value.bool false]).toArray e4) :: (pc, W.listOf pcl.toArray e5) :: news) := news_sub N (by wtm_at "msub")
  refine wpAny_call ?_
  have hInc0 : Inc [172, pc, wr, dT, Ta, da, ds, ns, ps] := ⟨hlt.1, hlt.2.1, hlt.2.2.1, hlt.2.2.2.1, hlt.2.2.2.2.1, hlt.2.2.2.2.2.1, hlt.2.2.2.2.2.2.1, hlt.2.2.2.2.2.2.2, trivial⟩
  k_dflt (refine' code_def ?k1 ?k2 ?k3 ?k4 ?k5 ?kA ?kF ?kK ?k6 ?k7 ?k8 ?k9 ?kB ?_ ?c2 ?c3 ?c4 ?c5; (case kA => exact rfl); (case kF => assumption); (case kK => assumption); (case k1 => k_asm); (case k2 => k_asm); (case k3 => k_asm); (case k4 => k_asm); (case k5 => k_asm); (case k6 => k_is); (case k7 => k_is); (case k8 => first | wtm_at "rm" | (simp only [recursionLimit] at *; wtm_at "lo")); (case k9 => first | exact BindsTo.of_eq rfl | exact binds_K (by k_in) rfl (by k_is) rfl rfl rfl | (refine' kp_binds ?kx ?ke; (case kx => k_in); (case ke => exact fun _ => rfl))); (case c5 => decide); (case kB => exact locs rfl); (case c2 => exact rfl); (case c3 => exact rfl); (case c4 => exact rfl); k_whole; intro g' L' h' FG' F' N' B' X' T'; (try dsimp only); (try k_unmd); (try k_fold); (show (let zA := _; let ze := _; wpAny _ zA (execs _ ze) _ _ _)); intro zA ze; (try (refine gen_tok ?_; intro t1')); (show (let zG : Prop := _; zG)); intro zG; have F1' := F'; clear F'; obtain ⟨m1', F', em_target, em_names, em_inside, em_place⟩ : ∃ m1 : Str → Option Value, Fr g' L' h' m1 ∧ m1 (Str.ofString "target") = some (.ref Ta) ∧ m1 (Str.ofString "names") = some (.ref nm) ∧ m1 (Str.ofString "inside") = some (.ref ins) ∧ m1 (Str.ofString "place") = some (.int p tq) := ⟨_, F1', by rfl, by rfl, by rfl, by rfl⟩; clear F1'; (try k_unmd); k_unfold; (try k_unmd))
  k_steps
  refine stop_in ?_
  obtain ⟨tw, htw⟩ := hnames.get hwp
  have hpn : p < 1000 := by
    have := (List.getElem?_eq_some_iff.mp hwp).1
    wtm_at "lo"
  rename Fr _ _ _ _ => FA
  rename News _ _ _ _ => NA
  refine item_lst (k := p) NA (.tail _ (.tail _ (.head _))) rfl htw (by wtm_at "inc") ?_
  k_steps
  refine stop_in ?_
  rename Fr _ _ _ _ => FB
  rename News _ _ _ _ => NB
  rename_i at' _ ao hlo hao hao2 _ _ l1
  have hnat : ∀ r ∈ news, @LT.lt Nat _ r.1 at' := by
    show (let zG : Prop := _; zG)
    intro zG
    obtain ⟨_, _, _, _, _, _, _, _, _, z⟩ := l1
    (try k_unmd); k_unfold
    exact allLt_mem z
  have hpsat : @LT.lt Nat _ ps at' := by
    show (let zG : Prop := _; zG)
    intro zG
    obtain ⟨_, _, _, _, _, _, _, z, _, _⟩ := l1
    (try k_unmd); k_unfold
    exact z
  have hInc : Inc [172, pc, wr, dT, Ta, da, ds, ns, ps, at'] := ⟨hlt.1, hlt.2.1, hlt.2.2.1, hlt.2.2.2.1, hlt.2.2.2.2.1, hlt.2.2.2.2.2.1, hlt.2.2.2.2.2.2.1, hlt.2.2.2.2.2.2.2, hpsat, trivial⟩
  clear hInc0
  have hnE : ∀ a : Nat, (∀ p ∈ news, p.1 ≠ a) → a < at' → ∀ p ∈ (at', ao) :: news, p.1 ≠ a := fun a ha hl p hp => by
    rcases List.mem_cons.mp hp with rfl | hp
    · exact Nat.ne_of_gt hl
    · exact ha p hp
  have hsE : ∀ p ∈ news, p ∈ (at', ao) :: news := fun p hp => .tail _ hp
  have q0 := hnE 172 o0 (by wtm_at "inc")
  have q1 := hnE dT o1 (by wtm_at "inc")
  have q2 := hnE ds o2 (by wtm_at "inc")
  have q3 := hnE ns o3 (by wtm_at "inc")
  have q4 := hnE ps o4 (by wtm_at "inc")
  have q5 := hnE pc o5 (by wtm_at "inc")
  have htg := hw tag (List.mem_of_getElem? hwp)
  have N2 : News g' L' _ ((172, tabObj tb) :: (dT, dictOf (tgtL w wr da ds ns pm ps rs rd tz) en) :: (ds, W.listOf (Value.ref a0 :: es).toArray e1) :: (ns, W.listOf nsl.toArray e3) :: (ps, W.listOf (psl ++ [Value.bool false]).toArray e4) :: (pc, W.listOf pcl.toArray e5) :: (at', ao) :: news) := news_sub NB (by wtm_at "msub")
  clear NB
  have hlen : xs.length = mid.flatten.length + 3 := by rw [hxs]; simp only [List.length_append, List.length_cons, List.length_nil]; wtm_at "lo"
  refine c_start (h₀ := g') (L := L') Ta dT a0 tp at' da wr ds ns pm ps pc rs rd tz en es e1 e2 e3 e4 e5 e6 tag tw tu tx ao nsl psl pcl tb B' FB X' N2 T' ?r4 ?r5 ?r1 ?r2 (hsE _ hT) (hsE _ hda) (hsE _ hwr) (.head _) hao hao2 (by assumption) (hsE _ ha0) (hsE _ htp) (fun v hv => ?r3) (by wtm_at "inc") (by wtm_at "inc") (by wtm_at "inc") (by wtm_at "inc") htg (htb.mono hsE) q0 q1 q2 q3 q4 q5 ⟨hlt.1, hlt.2.1, hlt.2.2.1, hlt.2.2.2.1, hlt.2.2.2.2.1, hlt.2.2.2.2.2.1, hlt.2.2.2.2.2.2.1, hlt.2.2.2.2.2.2.2, hpsat⟩ ?_
  case r4 => exact rfl
  case r5 => exact rfl
  case r1 => k_room
  case r2 => k_units
  case r3 =>
    show (let zG : Prop := _; zG)
    intro zG
    obtain ⟨a, e, h1, h2⟩ := hes v hv
    (try k_unmd); k_unfold
    exact ⟨a, e, h1, hsE _ h2⟩
  intro E1 E2 h9 tk9 gg9 k1 k2 e1' e3' e4' e5' e7 en' tb' news1 hgg9 F9 hs9 hn9 hE19 htb9 N9
  clear FB N2
  have hs1 : ∀ q ∈ news, q ∈ news1 := fun q hq => hs9 _ (hsE _ hq)
  have hn1' : ∀ q ∈ news1, q ∈ news ∨ (ps < q.1 ∧ ∀ r ∈ news, r.1 < q.1) := fun q hq => by
    rcases hn9 q hq with h | h
    · rcases List.mem_cons.mp h with rfl | h
      · exact .inr ⟨hpsat, hnat⟩
      · exact .inl h
    · exact .inr ⟨Nat.lt_trans hpsat h, fun r hr => Nat.lt_trans (hnat r hr) h⟩
  have hes1 : ∀ v ∈ es ++ [Value.ref E1], ∃ a e, v = Value.ref a ∧ (a, W.listOf ([] : List Value).toArray e) ∈ news1 := fun v hv => by
    rcases List.mem_append.mp hv with hv | hv
    · obtain ⟨a, e, h1, h2⟩ := hes v hv
      exact ⟨a, e, h1, hs1 _ h2⟩
    · exact ⟨E1, e7, by simpa using hv, hE19⟩
  have hoff1 : ∀ a : Nat, (∀ p ∈ news, p.1 ≠ a) → a ≤ ps → ∀ q ∈ news1, q.1 ≠ a := fun a ha hl q hq => by
    rcases hn1' q hq with h | h
    · exact ha q h
    · exact Nat.ne_of_gt (Nat.lt_of_le_of_lt hl h.1)
  have x0 := hoff1 172 o0 (by wtm_at "inc")
  have x1 := hoff1 dT o1 (by wtm_at "inc")
  have x2 := hoff1 ds o2 (by wtm_at "inc")
  have x3 := hoff1 ns o3 (by wtm_at "inc")
  have x4 := hoff1 ps o4 (by wtm_at "inc")
  have x5 := hoff1 pc o5 (by wtm_at "inc")
  clear q0 q1 q2 q3 q4 q5 hnE hsE hs9 hn9 hnat
  k_steps
  refine stop_in ?_
  refine my_For (GB := fun g => BareTo s0g g) (h₀ := g') ?_
  k_steps
  refine stop_in ?_
  show (let zG : Prop := _; zG)
  intro zG
  obtain ⟨li, le, lvs, hli, hlm, hlv⟩ := hinl.get hdp2
  have hpn2 : p < 1000 := hpn
  rename Fr _ _ _ _ => FA
  rename News _ _ _ _ => NA
  (try k_unmd); k_unfold
  refine item_lst (k := p) NA (.tail _ (.tail _ (.tail _ (.tail _ (.tail _ (.tail _ (hs1 _ hins))))))) rfl hli (by wtm_at "inc") ?_
  have hlm1 := hs1 _ hlm
  refine iter_list rfl ⟨_, (NA _ (.tail _ (.tail _ (.tail _ (.tail _ (.tail _ (.tail _ hlm1)))))) ).1, rfl, _, rfl⟩ FA NA ?_
  intro I h3 hltI K
  refine (fun (zk : ∀ (J : Nat → ((Str → Option Value)) → List (Addr × Obj) → Prop), (∀ (i : Nat) (m' : (Str → Option Value)) (nw : List (Addr × Obj)) (rs2 rd2 : Bool) (tb2 : Array Value) (en2 u1 u3 u4 u5 : Nat) (vs : List Value) (news2 : List (Addr × Obj)), (nw = (172, tabObj tb2) :: (dT, dictOf (tgtL w wr da ds ns pm ps rs2 rd2 tz) en2) :: (ds, W.listOf (Value.ref a0 :: (es ++ [Value.ref E1])).toArray u1) :: (ns, W.listOf (nsl ++ [Value.ref E2]).toArray u3) :: (ps, W.listOf (psl ++ [Value.bool false] ++ [Value.bool false]).toArray u4) :: (pc, W.listOf (pcl ++ [Value.str (S (60 :: tag)) k1] ++ [Value.str (S [62]) k2] ++ vs).toArray u5) :: news2) → ((∀ q ∈ news1, q ∈ news2)) → ((∀ q ∈ news2, q ∈ news1 ∨ (ps < q.1 ∧ ∀ r ∈ news1, r.1 < q.1))) → (TabOk ⟨188, 71, 188, 96⟩ (Str.ofString "C14NWriterTarget._start" ++ Str.ofString ".<locals>." ++ Str.ofString "<lambda>") tb2 news2) → (SgsAre vs (mid.take i).flatten) → (m' (Str.ofString "target") = some (.ref Ta)) → (m' (Str.ofString "names") = some (.ref nm)) → (m' (Str.ofString "inside") = some (.ref ins)) → (m' (Str.ofString "place") = some (.int p tq)) → J i m' nw) → (∀ (i : Nat) (m' : (Str → Option Value)) (nw : List (Addr × Obj)) (zG : Prop), (∀ (rs2 rd2 : Bool) (tb2 : Array Value) (en2 u1 u3 u4 u5 : Nat) (vs : List Value) (news2 : List (Addr × Obj)), (nw = (172, tabObj tb2) :: (dT, dictOf (tgtL w wr da ds ns pm ps rs2 rd2 tz) en2) :: (ds, W.listOf (Value.ref a0 :: (es ++ [Value.ref E1])).toArray u1) :: (ns, W.listOf (nsl ++ [Value.ref E2]).toArray u3) :: (ps, W.listOf (psl ++ [Value.bool false] ++ [Value.bool false]).toArray u4) :: (pc, W.listOf (pcl ++ [Value.str (S (60 :: tag)) k1] ++ [Value.str (S [62]) k2] ++ vs).toArray u5) :: news2) → ((∀ q ∈ news1, q ∈ news2)) → ((∀ q ∈ news2, q ∈ news1 ∨ (ps < q.1 ∧ ∀ r ∈ news1, r.1 < q.1))) → (TabOk ⟨188, 71, 188, 96⟩ (Str.ofString "C14NWriterTarget._start" ++ Str.ofString ".<locals>." ++ Str.ofString "<lambda>") tb2 news2) → (SgsAre vs (mid.take i).flatten) → (m' (Str.ofString "target") = some (.ref Ta)) → (m' (Str.ofString "names") = some (.ref nm)) → (m' (Str.ofString "inside") = some (.ref ins)) → (m' (Str.ofString "place") = some (.int p tq)) → zG) → J i m' nw → zG) → _) => zk (fun i m' nw => ∀ zG : Prop, (∀ (rs2 rd2 : Bool) (tb2 : Array Value) (en2 u1 u3 u4 u5 : Nat) (vs : List Value) (news2 : List (Addr × Obj)), (nw = (172, tabObj tb2) :: (dT, dictOf (tgtL w wr da ds ns pm ps rs2 rd2 tz) en2) :: (ds, W.listOf (Value.ref a0 :: (es ++ [Value.ref E1])).toArray u1) :: (ns, W.listOf (nsl ++ [Value.ref E2]).toArray u3) :: (ps, W.listOf (psl ++ [Value.bool false] ++ [Value.bool false]).toArray u4) :: (pc, W.listOf (pcl ++ [Value.str (S (60 :: tag)) k1] ++ [Value.str (S [62]) k2] ++ vs).toArray u5) :: news2) → ((∀ q ∈ news1, q ∈ news2)) → ((∀ q ∈ news2, q ∈ news1 ∨ (ps < q.1 ∧ ∀ r ∈ news1, r.1 < q.1))) → (TabOk ⟨188, 71, 188, 96⟩ (Str.ofString "C14NWriterTarget._start" ++ Str.ofString ".<locals>." ++ Str.ofString "<lambda>") tb2 news2) → (SgsAre vs (mid.take i).flatten) → (m' (Str.ofString "target") = some (.ref Ta)) → (m' (Str.ofString "names") = some (.ref nm)) → (m' (Str.ofString "inside") = some (.ref ins)) → (m' (Str.ofString "place") = some (.int p tq)) → zG) → zG) (fun i m' nw rs2 rd2 tb2 en2 u1 u3 u4 u5 vs news2 zh0 zh1 zh2 zh3 zh4 zh5 zh6 zh7 zh8 _ zk => zk rs2 rd2 tb2 en2 u1 u3 u4 u5 vs news2 zh0 zh1 zh2 zh3 zh4 zh5 zh6 zh7 zh8) (fun i m' nw zG zk zh => zh zG zk)) ?_; intro J Jmk Jel
  refine forAt_of J hgg9 K
    (fun m' => stable_list (fun i nw h => by refine Jel _ _ _ _ ?_ h; rintro rs2 rd2 tb2 en2 u1 u3 u4 u5 vs news2 rfl z -; intros; exact .inr ⟨_, .tail _ (.tail _ (.tail _ (.tail _ (.tail _ (.tail _ (z _ hlm1)))))), rfl, _, rfl⟩)) ?jw ?_ ?_
  case' jw => exact Jmk _ _ _ true rd tb' en' e1' e3' e4' e5' ([]) news1 (by rw [List.append_nil]) (fun q hq => hq) (fun q hq => .inl hq) htb9 trivial (by ((try dsimp only); (repeat (first | exact if_pos rfl | with_reducible assumption | (refine (if_neg ?_).trans ?_; focus decide))); try rfl)) (by ((try dsimp only); (repeat (first | exact if_pos rfl | with_reducible assumption | (refine (if_neg ?_).trans ?_; focus decide))); try rfl)) (by ((try dsimp only); (repeat (first | exact if_pos rfl | with_reducible assumption | (refine (if_neg ?_).trans ?_; focus decide))); try rfl)) (by ((try dsimp only); (repeat (first | exact if_pos rfl | with_reducible assumption | (refine (if_neg ?_).trans ?_; focus decide))); try rfl))
  · rintro i v m1 nw1 oI h10 tk10 gg hgg hi hP JJ F10 N10 off10 hst10
    refine Jel _ _ _ _ ?_ JJ
    clear JJ
    rintro rs2 rd2 tb2 en2 u1 u3 u4 u5 vs news2 rfl hsub hnew htb2 hvs em1 em2 em3 em4
    show (let zG : Prop := _; zG)
    intro zG
    obtain ⟨x, tx9, hx, rfl⟩ := ints_back hlv (i := i) (v := v) (by simpa using hP)
    obtain ⟨a, ha, rfl⟩ := NI_get hx
    obtain ⟨b, hb, hbi, hbt, hbt1⟩ := mapO_get hmid ha
    replace N10 : News g' L' h10 ((I, oI) :: (172, tabObj tb2) :: (dT, dictOf (tgtL w wr da ds ns pm ps rs2 rd2 tz) en2) :: (ds, W.listOf (Value.ref a0 :: (es ++ [Value.ref E1])).toArray u1) :: (ns, W.listOf (nsl ++ [Value.ref E2]).toArray u3) :: (ps, W.listOf (psl ++ [Value.bool false] ++ [Value.bool false]).toArray u4) :: (pc, W.listOf (pcl ++ [Value.str (S (60 :: tag)) k1] ++ [Value.str (S [62]) k2] ++ vs).toArray u5) :: news2) := N10
    have hI10 := (N10 _ (.head _)).1
    (try k_unmd); k_unfold
    refine wpAny_pure ?_
    k_steps
    refine stop_in ?_
    rename Fr _ _ _ _ => FC
    rename News _ _ _ _ => NC
    have hfl := flat_take hbi
    have hfl2 := flat_lenT mid (i + 1)
    rw [hfl, List.length_append] at hfl2
    have hsI : ∀ {q}, q ∈ news2 → q ∈ (I, oI) :: news2 := fun h => .tail _ h
    have hs2 : ∀ {q}, q ∈ news → q ∈ (I, oI) :: news2 := fun h => .tail _ (hsub _ (hs1 _ h))
    have hIps : @LT.lt Nat _ ps I := K.up _ (.tail _ (.tail _ (.tail _ (.tail _ (.head _)))))
    have hoff2 : ∀ a : Nat, (∀ p ∈ news1, p.1 ≠ a) → a ≤ ps → ∀ q ∈ (I, oI) :: news2, q.1 ≠ a := fun a ha hl q hq => by
      rcases List.mem_cons.mp hq with rfl | hq
      · exact Nat.ne_of_gt (Nat.lt_of_le_of_lt hl hIps)
      rcases hnew q hq with h | h
      · exact ha q h
      · exact Nat.ne_of_gt (Nat.lt_of_le_of_lt hl h.1)
    have z0 := hoff2 172 x0 (by wtm_at "inc")
    have z1 := hoff2 dT x1 (by wtm_at "inc")
    have z2 := hoff2 ds x2 (by wtm_at "inc")
    have z3 := hoff2 ns x3 (by wtm_at "inc")
    have z4 := hoff2 ps x4 (by wtm_at "inc")
    have z5 := hoff2 pc x5 (by wtm_at "inc")
    have N11 : News g' L' _ ((172, tabObj tb2) :: (dT, dictOf (tgtL w wr da ds ns pm ps rs2 rd2 tz) en2) :: (ds, W.listOf (Value.ref a0 :: (es ++ [Value.ref E1])).toArray u1) :: (ns, W.listOf (nsl ++ [Value.ref E2]).toArray u3) :: (ps, W.listOf (psl ++ [Value.bool false] ++ [Value.bool false]).toArray u4) :: (pc, W.listOf (pcl ++ [Value.str (S (60 :: tag)) k1] ++ [Value.str (S [62]) k2] ++ vs).toArray u5) :: (I, oI) :: news2) := news_sub NC (by wtm_at "msub")
    clear NC
    refine ih (h₀ := g') (L := L') Ta dT a0 tp da wr ds ns pm ps pc nm ins rs2 rd2 tz en2 (es ++ [Value.ref E1]) u1 e2 u3 u4 u5 e6 e8 e9 tx9 tu tx (nsl ++ [Value.ref E2]) (psl ++ [Value.bool false]) (pcl ++ [Value.str (S (60 :: tag)) k1] ++ [Value.str (S [62]) k2] ++ vs) nml inl names inside b a tb2 B' FC X' N11 T' ?v1 ?v2 ?v3 ?v4 (hs2 hT) (hs2 hda) (hs2 hwr) (hs2 ha0) (hs2 htp) (fun v hv => ?v5) ?v6 ?v7 ?v8 ?v9 (htb2.mono fun q hq => hsI hq) z0 z1 z2 z3 z4 z5 hlt (hs2 hnm) (hs2 hins) hnames (hinl.mono fun q hq => hs2 hq) hw hn1 hi1 hb ?_
    case v1 => exact rfl
    case v2 => exact rfl
    case v3 => k_room
    case v4 => k_units
    case v5 =>
      show (let zG : Prop := _; zG)
      intro zG
      obtain ⟨a, e, h1, h2⟩ := hes1 v hv
      (try k_unmd); k_unfold
      exact ⟨a, e, h1, hsI (hsub _ h2)⟩
    case v6 => simp only [List.length_append, List.length_cons, List.length_nil]; wtm_at "lo"
    case v7 => simp only [List.length_append, List.length_cons, List.length_nil]; wtm_at "lo"
    case v8 => simp only [List.length_append, List.length_cons, List.length_nil]; wtm_at "lo"
    case v9 => simp only [List.length_append, List.length_cons, List.length_nil, hvs.length]; wtm_at "lo"
    intro h12 tk12 gg12 rs3 rd3 w1 w3 w4 w5 en3 tb3 vs3 news3 hgg12 F12 hs3 hn3 htb3 hvs3 N12
    k_steps
    rename Fr _ _ _ _ => F13
    rename News _ _ _ _ => N13
    show (let zG : Prop := _; zG)
    intro zG
    obtain ⟨oI', hoI, -, hdI⟩ := hst10.1
    obtain rfl : oI' = oI := Option.some.inj (hoI.symm.trans hI10)
    have hIm : (I, oI') ∈ news3 := hs3 _ (.head _)
    have hmem : ∀ {q}, q ∈ news3 → q ∈ (172, tabObj tb3) :: (dT, (dictOf (tgtL w wr da ds ns pm ps rs3 rd3 tz) en3)) :: (ds, W.listOf (Value.ref a0 :: (es ++ [Value.ref E1])).toArray w1) :: (ns, W.listOf (nsl ++ [Value.ref E2]).toArray w3) :: (ps, W.listOf (psl ++ [Value.bool false] ++ [Value.bool false]).toArray w4) :: (pc, W.listOf (pcl ++ [Value.str (S (60 :: tag)) k1] ++ [Value.str (S [62]) k2] ++ vs ++ vs3).toArray w5) :: news3 := fun h => .tail _ (.tail _ (.tail _ (.tail _ (.tail _ (.tail _ h)))))
    have hIn : (_ : Heap).get? I = some oI' := (N13 _ (hmem hIm)).1
    have Nn3 := news_sub N13 (news' := news3) fun q hq => hmem hq
    (try k_unmd); k_unfold
    refine forEnd_mkG (nw := (172, tabObj tb3) :: (dT, dictOf (tgtL w wr da ds ns pm ps rs3 rd3 tz) en3) :: (ds, W.listOf (Value.ref a0 :: (es ++ [Value.ref E1])).toArray w1) :: (ns, W.listOf (nsl ++ [Value.ref E2]).toArray w3) :: (ps, W.listOf (psl ++ [Value.bool false] ++ [Value.bool false]).toArray w4) :: (pc, W.listOf (pcl ++ [Value.str (S (60 :: tag)) k1] ++ [Value.str (S [62]) k2] ++ (vs ++ vs3)).toArray w5) :: (news3.filter fun q => q.1 != I)) (hgg.trans hgg12) F13 ?g1 ?g2 ?zJ
    case' zJ => refine Jmk _ _ _ rs3 rd3 tb3 en3 w1 w3 w4 w5 (vs ++ vs3) _ rfl ?g3 ?g4 (htb3.filt Nn3 hIn hdI) ?g5 (by ((try dsimp only); (repeat (first | exact if_pos rfl | with_reducible assumption | (refine (if_neg ?_).trans ?_; focus decide))); try rfl)) (by ((try dsimp only); (repeat (first | exact if_pos rfl | with_reducible assumption | (refine (if_neg ?_).trans ?_; focus decide))); try rfl)) (by ((try dsimp only); (repeat (first | exact if_pos rfl | with_reducible assumption | (refine (if_neg ?_).trans ?_; focus decide))); try rfl)) (by ((try dsimp only); (repeat (first | exact if_pos rfl | with_reducible assumption | (refine (if_neg ?_).trans ?_; focus decide))); try rfl))
    case g1 =>
      exact news_sub N13 (sub_cons (hmem hIm) (sub_cons mem_0 (sub_cons mem_1 (sub_cons mem_2 (sub_cons mem_3 (sub_cons mem_4 (sub_cons (by rw [← List.append_assoc]; exact mem_5) fun q hq => lift_6 (List.mem_filter.mp hq).1)))))))
    case g2 =>
      exact fa_cons (have y := off10 _ mem_0; y) (fa_cons (have y := off10 _ mem_1; y) (fa_cons (have y := off10 _ mem_2; y) (fa_cons (have y := off10 _ mem_3; y) (fa_cons (have y := off10 _ mem_4; y) (fa_cons (have y := off10 _ mem_5; y) fun q hq => ne_flt hq)))))
    case g3 =>
      intro q hq
      have h2 := hsub q hq
      refine List.mem_filter.mpr ⟨hs3 _ (.tail _ h2), ?_⟩
      have := off10 q (.tail _ (.tail _ (.tail _ (.tail _ (.tail _ (.tail _ h2))))))
      simpa using this
    case g4 =>
      intro q hq
      obtain ⟨hq3, hqI⟩ := List.mem_filter.mp hq
      rcases hn3 q hq3 with h | h
      · rcases List.mem_cons.mp h with rfl | h
        · simp at hqI
        · exact hnew q h
      · exact .inr ⟨h.1, fun r hr => h.2 r (.tail _ (hsub r hr))⟩
    case g5 => rw [hfl]; exact hvs.app hvs3
  · intro h tk gg m9 nw9 hh F9 N9 J9
    refine Jel _ _ _ _ ?_ J9
    clear J9
    rintro rs2 rd2 tb2 en2 u1 u3 u4 u5 vs news2 rfl hsub hnew htb2 hvs em1 em2 em3 em4
    have hd1 : deep.length = lvs.length := by
      have := hlv.length
      rw [NI_len] at this
      exact this.symm
    rw [show (mid.take lvs.toArray.size) = mid from by rw [List.take_of_length_le]; rw [List.size_toArray, ← hd1, mapO_length hmid]; exact Nat.le_refl _] at hvs
    have hsA : ∀ {q}, q ∈ news → q ∈ news2 := fun h => hsub _ (hs1 _ h)
    replace N9 : News g' L' h ((dT, dictOf (tgtL w wr da ds ns pm ps rs2 rd2 tz) en2) :: (Ta, instObj 199 dT) :: (nm, W.listOf nml.toArray e8) :: (172, tabObj tb2) :: (dT, dictOf (tgtL w wr da ds ns pm ps rs2 rd2 tz) en2) :: (ds, W.listOf (Value.ref a0 :: (es ++ [Value.ref E1])).toArray u1) :: (ns, W.listOf (nsl ++ [Value.ref E2]).toArray u3) :: (ps, W.listOf (psl ++ [Value.bool false] ++ [Value.bool false]).toArray u4) :: (pc, W.listOf (pcl ++ [Value.str (S (60 :: tag)) k1] ++ [Value.str (S [62]) k2] ++ vs).toArray u5) :: news2) := news_sub N9 (sub_cons mem_1 (sub_cons (lift_6 (hsA hT)) (sub_cons (lift_6 (hsA hnm)) sub_0)))
    k_steps
    refine stop_in ?_
    rename Fr _ _ _ _ => FE
    rename News _ _ _ _ => NE
    refine item_lst (k := p) NE (.tail _ (.tail _ (.head _))) rfl htw (by wtm_at "inc") ?_
    k_steps
    refine stop_in ?_
    rename Fr _ _ _ _ => FE
    rename News _ _ _ _ => NE
    have hoff2 : ∀ a : Nat, (∀ p ∈ news1, p.1 ≠ a) → a ≠ 172 → a ≤ ps → ∀ q ∈ (172, tabObj tb2) :: news2, q.1 ≠ a := fun a ha h7 hl q hq => by
      rcases List.mem_cons.mp hq with rfl | hq
      · exact h7.symm
      rcases hnew q hq with h | h
      · exact ha q h
      · exact Nat.ne_of_gt (Nat.lt_of_le_of_lt hl h.1)
    have z1 := hoff2 dT x1 (by wtm_at "inc") (by wtm_at "inc")
    have z2 := hoff2 ds x2 (by wtm_at "inc") (by wtm_at "inc")
    have z3 := hoff2 ns x3 (by wtm_at "inc") (by wtm_at "inc")
    have z4 := hoff2 ps x4 (by wtm_at "inc") (by wtm_at "inc")
    have z5 := hoff2 pc x5 (by wtm_at "inc") (by wtm_at "inc")
    have hsB : ∀ {q}, q ∈ news → q ∈ (172, tabObj tb2) :: news2 := fun h => .tail _ (hsA h)
    have N11 : News g' L' _ ((dT, dictOf (tgtL w wr da ds ns pm ps rs2 rd2 tz) en2) :: (ds, W.listOf (Value.ref a0 :: es ++ [Value.ref E1]).toArray u1) :: (ns, W.listOf (nsl ++ [Value.ref E2]).toArray u3) :: (ps, W.listOf (psl ++ [Value.bool false] ++ [Value.bool false]).toArray u4) :: (pc, W.listOf (pcl ++ [Value.str (S (60 :: tag)) k1] ++ [Value.str (S [62]) k2] ++ vs).toArray u5) :: (172, tabObj tb2) :: news2) := news_sub NE (by (repeat (refine sub_cons ?_ ?_; focus wtm_at "mmd")); wtm_at "msub")
    clear NE
    have hvl := hvs.length
    refine c_end (h₀ := g') (L := L') Ta dT a0 tp da wr ds ns pm ps pc rs2 rd2 tz en2 es u1 e2 u3 u4 u5 e6 tag tw tu tx nsl (psl ++ [Value.bool false]) (pcl ++ [Value.str (S (60 :: tag)) k1] ++ [Value.str (S [62]) k2] ++ vs) (Value.ref E1) (Value.ref E2) (Value.bool false) B' FE X' N11 T' ?v1 ?v2 ?v3 ?v4 (hsB hT) (hsB hda) (hsB hwr) (hsB ha0) (hsB htp) (fun v hv => ?v5) (by wtm_at "inc") (by wtm_at "inc") ?v8 ?v9 htg z1 z2 z3 z4 z5 (by wtm_at "inc") ?_
    case v1 => exact rfl
    case v2 => exact rfl
    case v3 => k_room
    case v4 => k_units
    case v5 =>
      show (let zG : Prop := _; zG)
      intro zG
      obtain ⟨a, e, h1, h2⟩ := hes1 v hv
      (try k_unmd); k_unfold
      exact ⟨a, e, h1, .tail _ (hsub _ h2)⟩
    case v8 => simp only [List.length_append, List.length_cons, List.length_nil]; wtm_at "lo"
    case v9 => simp only [List.length_append, List.length_cons, List.length_nil, hvl]; wtm_at "lo"
    intro rd4 h12 tk12 gg12 k3 w1 w3 w4 w5 en3 hgg12 F12 N12
    clear N11 FE
    k_steps
    rename News h₀ _ _ _ => NZ
    rename Fr h₀ _ _ _ => FZ
    refine ret _ _ _ rs2 rd4 w1 w3 w4 w5 en3 tb2 (Value.str (S (60 :: tag)) k1 :: Value.str (S [62]) k2 :: (vs ++ [Value.str (S (60 :: 47 :: tag ++ [62])) k3])) news2 (hh.trans hgg12) FZ (fun q hq => hsA hq) (fun q hq => ?_) htb2 ?_ ?_
    · rcases hnew q hq with h | h
      · exact hn1' q h
      · exact .inr ⟨h.1, fun r hr => h.2 r (hs1 r hr)⟩
    · rw [hxs]
      exact ⟨⟨_, rfl⟩, ⟨_, rfl⟩, hvs.app ⟨⟨_, rfl⟩, trivial⟩⟩
    · rw [show pcl ++ (Value.str (S (60 :: tag)) k1 :: Value.str (S [62]) k2 :: (vs ++ [Value.str (S (60 :: 47 :: tag ++ [62])) k3])) = pcl ++ [Value.str (S (60 :: tag)) k1] ++ [Value.str (S [62]) k2] ++ vs ++ [Value.str (S (60 :: 47 :: tag ++ [62])) k3] from by simp]
      exact news_sub NZ (by wtm_at "msub")
end Mine.Internal
end PartCtold
end Fast
theorem Mine.Internal.fresh17 : True ∧ True := by
  w_top off
  first | (walk1; fail) | exact ⟨trivial, trivial⟩
section PartCstream
open PySem PySem.W PyProof.Rows PyProof.Rows.LCg
namespace Mine.Internal
set_option hygiene false in
local macro_rules | `(tactic| walk_at "execs cons") => `(tactic| (k_here; (try dsimp only); (with_reducible refine wpAny_execs_cons ?_)))
theorem news_stream {h₀ h : Heap} {L : Addr} {f c pl pb x d cP cT t : Addr × Obj} {l : List (Addr × Obj)} (N : News h₀ L h (f :: c :: pl :: pb :: x :: d :: cP :: cT :: t :: l)) : News h₀ L h (x :: d :: pl :: cT :: cP :: f :: c :: t :: l) := news_sub N (by wtm_at "msub")
set_option maxHeartbeats 1500000 in
theorem c_stream {w : World} {A₀ : Around} {base h₀ : Heap} {outer : List Env} {dp un : Nat} {gd : Option (List Code)} {env : Env} {L : Addr} {m : Str → Option Value} {news : List (Addr × Obj)} {loose : List Str} {mean : ExcName → Option Value} {mg mb : Str → Option Value} {s0h : Heap} {s0g : Array GenState} {s0d : Drawn} {s0t : Nat} {s0o : OsState} {Q E : Value → Shared → Prop} (page : List Nat) (tt : Tok)
  (B : Below A₀ base outer h₀) (F : Fr h₀ L s0h m) (X : (hd.heap_39 w.params).In h₀)
  (N : News h₀ L s0h ((219, tabObj #[]) :: news)) (o0 : ∀ p ∈ news, p.1 ≠ 219)
  (T : Top topProg loose mean mg mb h₀) (hf : env.frame = some L) (hke : env.scope.kind = .function) (hdp : dp + 24 < recursionLimit) (hun : un + 300 < cLine)
  (ret : ∀ (BX dBX pbB fR cT cP pl : Nat) (oT oP : Obj) (b0 b1 b2 b3 b4 b5 b6 ti : Tok) news' h' tk', Fr h₀ L h' m →
    News h₀ L h' ((BX, instObj 83 dBX) :: (dBX, dictOf (benL w pbB fR b0 b1 b2 b3 b4 b5 b6) 5) :: (pl, W.listOf [Value.int 0 ti].toArray 0) :: (cT, oT) :: (cP, oP) :: news') → (∀ p ∈ news, p ∈ news') → RdFn (hd.heap_39 w.params) news' fR cT cP → oT.data = .cell (some (.str (S page) tt)) → oP.data = .cell (some (.ref pl)) →
    (∀ p ∈ news, p.1 < cT) → cT < cP → cP < dBX → dBX < BX → BX < pl → (∀ p ∈ news', p ∈ news ∨ (BX < p.1 ∧ p.1 ≠ pl) ∨ p.1 = 219) → (∃ ps9, (219, tabObj ps9) ∈ news') → Q (.ref BX) (Shared.mk h' s0g s0d tk' s0o)) :
  wpAny (model PySem.Challenge.rw_kl0306_01.row.prog w) (aA dp un gd env outer) (call (.ref 224) [.str (S page) tt]) Q E (Shared.mk s0h s0g s0d s0t s0o) := by
  revert X; k_fill; intro X
  have C219 : CodeHd h₀ 223 219 := codeHd_of_K X (by kernel_rfl)
  refine wpAny_call ?_
  k_dflt (refine' code_defC ?k1 ?k2 ?k3 ?k4 ?k5 ?kA ?kF ?kK ?k6 ?k7 ?k8 ?k9 ?kB ?kD ?_ ?c2 ?c3 ?c4; (case kA => exact rfl); (case kF => assumption); (case kK => assumption); (case k1 => k_asm); (case k2 => k_asm); (case k3 => k_asm); (case k4 => k_asm); (case k5 => k_asm); (case k6 => k_is); (case k7 => k_is); (case k8 => first | wtm_at "rm" | (simp only [recursionLimit] at *; wtm_at "lo")); (case k9 => first | exact BindsTo.of_eq rfl | exact binds_K (by k_in) rfl (by k_is) rfl rfl rfl | (refine' kp_binds ?kx ?ke; (case kx => k_in); (case ke => exact fun _ => rfl))); (case kB => exact rfl); (case kD => decide +kernel); (case c2 => exact rfl); (case c3 => exact rfl); (case c4 => exact rfl); k_whole; intro g' L' h' tk' cells' FG' F' N' Y' B' X' T' l1; (show (let zG : Prop := _; zG)); intro zG; k_cells Y'; (try simp only [List.cons_append, List.nil_append] at N'); have F1' := F'; clear F'; obtain ⟨m1', F'⟩ : ∃ m1 : Str → Option Value, Fr g' L' h' m1 := ⟨_, F1'⟩; clear F1'; (try k_unmd); k_unfold; (try dsimp only); (try k_unmd); (try k_fold); (show (let zA := _; let ze := _; wpAny _ zA (execs _ ze) _ _ _)); intro zA ze; (try k_unmd))
  rename_i oa ob dca dcb
  replace dca : oa.data = .cell none := dca.trans (by kernel_rfl)
  replace dcb : ob.data = .cell (some (.str (S page) tt)) := dcb.trans (by kernel_rfl)
  have hl0 : ∀ p ∈ news, @LT.lt Nat _ p.1 L' := fun p hp => l1 p (.tail _ hp)
  k_lt l1
  k_steps
  refine' nestDef_K ?d0 ?k0 ?z9a0 ?_
  case d0 => exact rfl
  case k0 => exact rfl
  case z9a0 => exact rfl
  refine' nest_K ?z9F ?z9N ?T ?z9C ?cd ?z9U ?z9t ?z9n ?z9cl ?_
  case z9F => k_asm
  case z9N => k_asm
  case T => k_asm
  case cd => exact rfl
  case z9C => exact C219.keeps FG'.keep
  case z9U => k_updF
  case z9t => kn_triples
  case z9n => kn_among
  case z9cl => exact rfl
  intro f' c' oc' vs' t' ct' dc' h' tk' F' N' d1' d2' l1 l2
  (try dsimp only at N')
  (try k_lt l1)
  (try k_lt2 l2)
  k_steps
  rename News h₀ _ _ _ => NZ
  rename Fr h₀ _ _ _ => FZ
  rename_i oPl dPl _ _ _ _ _ _ _
  have hc1 : ∀ p ∈ news, @LT.lt Nat _ p.1 (L' + 1) := fun p hp => Nat.lt_succ_of_lt (hl0 p hp)
  have hx1 : ∀ {a b : Nat}, a < b → a < b := fun h => h
  refine ret _ _ _ f' _ _ _ _ _ _ _ _ _ _ _ _ _ _ _ _ FZ (news_stream NZ) (fun p hp => .tail _ (.tail _ (.tail _ hp))) ?z1 dcb dPl hc1 (Nat.lt_succ_self _) ?z2 ?z3 ?z4 (fun p hp => ?z5) ⟨_, .tail _ (.tail _ (.head _))⟩
  case z1 => exact ⟨_, _, _, _, _, _, _, c', oc', vs', t', ⟨_, _, _, _, _, _, _, _, _, _, by k_is, by exact rfl⟩, .head _, .tail _ (.head _), d1', d2'⟩
  case z2 => wtm_at "lt_asm"
  case z3 => wtm_at "lt_asm"
  case z4 => wtm_at "lt_asm"
  case z5 =>
    simp only [List.mem_cons] at hp
    rcases hp with h | h | h | h
    · rw [h]; exact .inr (.inl ⟨Nat.lt_trans l1.2.2.1 l2, Nat.ne_of_gt (Nat.lt_trans l1.1 l2)⟩)
    · rw [h]; exact .inr (.inl ⟨l1.2.2.1, Nat.ne_of_gt l1.1⟩)
    · rw [h]; exact .inr (.inr rfl)
    · exact .inl h
end Mine.Internal
end PartCstream
theorem Mine.Internal.fresh18 : True ∧ True := by
  w_top off
  first | (walk1; fail) | exact ⟨trivial, trivial⟩
section PartCread
open PySem PySem.W PyProof.Rows PyProof.Rows.LCg
namespace Mine.Internal
set_option maxHeartbeats 500000 in
theorem c_read {w : World} {A₀ : Around} {base h₀ : Heap} {outer : List Env} {dp un : Nat} {gd : Option (List Code)} {env : Env} {L : Addr} {m : Str → Option Value} {news : List (Addr × Obj)} {loose : List Str} {mean : ExcName → Option Value} {mg mb : Str → Option Value} {s0h : Heap} {s0g : Array GenState} {s0d : Drawn} {s0t : Nat} {s0o : OsState} {Q E : Value → Shared → Prop} (page : List Nat) (tt ti t1 : Tok) (fR cT cP pl p e : Nat) (oT oP : Obj)
  (B : Below A₀ base outer h₀) (F : Fr h₀ L s0h m) (X : (hd.heap_39 w.params).In h₀)
  (N : News h₀ L s0h ((pl, W.listOf [Value.int (p : Nat) ti].toArray e) :: news)) (o0 : ∀ p ∈ news, p.1 ≠ pl)
  (T : Top topProg loose mean mg mb h₀) (hf : env.frame = some L) (hke : env.scope.kind = .function) (hdp : dp + 24 < recursionLimit) (hun : un + 300 < cLine)
  (hT : (cT, oT) ∈ news) (hP : (cP, oP) ∈ news) (hTd : oT.data = .cell (some (.str (S page) tt))) (hPd : oP.data = .cell (some (.ref pl))) (hR : RdFn (hd.heap_39 w.params) news fR cT cP)
  (hpl : page.length ≤ 100000) (hp : p ≤ 100000)
  (ret : ∀ h' tk' t' e' ts, Fr h₀ L h' m → News h₀ L h' ((pl, W.listOf [Value.int ((p + 1 : Nat) : Int) t'].toArray e') :: news) → Q (.str (S ((page.drop p).take 1)) ts) (Shared.mk h' s0g s0d tk' s0o)) :
  wpAny (model PySem.Challenge.rw_kl0306_01.row.prog w) (aA dp un gd env outer) (call (.ref fR) [.int 1 t1]) Q E (Shared.mk s0h s0g s0d s0t s0o) := by
  have hStop0 : StopAt "subscriptTail" := trivial
  have hStop1 : StopAt "exec AugAssign" := trivial
  revert X; k_fill; intro X
  show (let zG : Prop := _; zG)
  intro zG
  obtain ⟨ps, bd, sc, qual, dc, pm, ctv, c', oc, vs, t, hrp, hm1, hm2, hd1, hd2⟩ := hR
  obtain ⟨rfl, rfl, rfl⟩ := hrp.eq ⟨_, _, _, _, _, _, _, _, _, _, by k_is, by exact rfl⟩
  clear hrp
  have ne1 : fR ≠ pl := o0 _ hm1
  have ne2 : c' ≠ pl := o0 _ hm2
  have ne3 : cT ≠ pl := o0 _ hT
  have ne4 : cP ≠ pl := o0 _ hP
  replace N : News h₀ L s0h ((fR, _) :: (c', oc) :: (cT, oT) :: (cP, oP) :: (pl, W.listOf [Value.int (p : Nat) ti].toArray e) :: news) := news_sub N (by wtm_at "msub")
  (try k_unmd); k_unfold
  refine wpAny_call ?_
  have C219 : CodeHd h₀ 223 219 := codeHd_of_K X (by kernel_rfl)
  refine' code_nest ?k1 ?k2 ?k3 ?k4 ?k5 ?kA ?kF ?kK ?k6 ?k7 ?k8 ?k9 ?kB ?_ ?c2 ?c3 ?c4 ?c5; (case kA => exact rfl); (case kF => first | assumption | exact rfl); (case kK => first | assumption | exact rfl); (case k1 => k_asm); (case k2 => k_asm); (case k3 => k_asm); (case k4 => k_asm); (case k5 => k_asm); (case k6 => k_mem); (case k7 => exact codeRec_news (by k_asm) (by k_mem) (by assumption) (by assumption)); (case k8 => k_room); (case k9 => exact BindsTo.of_eq rfl); (case c5 => decide); (case kB => exact locs rfl); (case c2 => exact rfl); (case c3 => exact rfl); (case c4 => exact rfl); k_whole; intro g' L' h' FG' F' N' B' X' T'; (try dsimp only); (try k_lift B'); (try k_fold)
  k_steps
  rename News h₀ _ _ _ => NZ
  rename Fr h₀ _ _ _ => FZ
  rw [show ([((p : Nat) : Int)].getD (Int.toNat 0) 0) = ((p : Nat) : Int) from rfl] at NZ ⊢
  rw [slice_at]
  rw [show ((p : Nat) : Int) + 1 = ((p + 1 : Nat) : Int) from by wtm_at "lo"] at NZ
  exact ret _ _ _ _ _ FZ (drop1 (drop1 (drop1 (drop1 NZ))))
end Mine.Internal
end PartCread
theorem Mine.Internal.fresh19 : True ∧ True := by
  w_top off
  first | (walk1; fail) | exact ⟨trivial, trivial⟩
section PartCrc
open PySem PySem.W PyProof.Rows PyProof.Rows.LCg
namespace Mine.Internal
theorem news_rc {h₀ h : Heap} {L : Addr} {a b c : Addr × Obj} {l : List (Addr × Obj)} (N : News h₀ L h (a :: b :: c :: l)) : News h₀ L h (a :: c :: l) := news_sub N (by wtm_at "msub")
theorem S_one_beq {a b : Nat} (h : (S [a] == S [b]) = true) : a = b := by
  have := eq_of_beq h
  simpa [S] using this
set_option maxHeartbeats 1500000 in
theorem c_rcC {w : World} {A₀ : Around} {base h₀ : Heap} {outer : List Env} {dp un : Nat} {gd : Option (List Code)} {env : Env} {L : Addr} {m : Str → Option Value} {news : List (Addr × Obj)} {loose : List Str} {mean : ExcName → Option Value} {mg mb : Str → Option Value} {s0h : Heap} {s0g : Array GenState} {s0d : Drawn} {s0t : Nat} {s0o : OsState} {Q E : Value → Shared → Prop} (page : List Nat) (tt ti : Tok) (LX dLX BX dBX pbB pb fR cT cP pl p ln e el : Nat) (oT oP : Obj) (b0 b1 b2 b3 b4 b5 b6 x0 x1 x2 x3 x4 x5 : Tok)
  (B : Below A₀ base outer h₀) (F : Fr h₀ L s0h m) (X : (hd.heap_39 w.params).In h₀)
  (N : News h₀ L s0h ((dLX, dictOf (lexL w ln BX pb x0 x1 x2 x3 x4 x5) el) :: (pl, W.listOf [Value.int (p : Nat) ti].toArray e) :: news)) (o0 : ∀ p ∈ news, p.1 ≠ pl) (o1 : ∀ p ∈ news, p.1 ≠ dLX) (o2 : dLX ≠ pl)
  (T : Top topProg loose mean mg mb h₀) (hf : env.frame = some L) (hke : env.scope.kind = .function) (hdp : dp + 48 < recursionLimit) (hun : un + 600 < cLine)
  (hLX : (LX, instObj 83 dLX) ∈ news) (hBX : (BX, instObj 83 dBX) ∈ news) (hdBX : (dBX, dictOf (benL w pbB fR b0 b1 b2 b3 b4 b5 b6) 5) ∈ news)
  (hT : (cT, oT) ∈ news) (hP : (cP, oP) ∈ news) (hTd : oT.data = .cell (some (.str (S page) tt))) (hPd : oP.data = .cell (some (.ref pl))) (hR : RdFn (hd.heap_39 w.params) news fR cT cP)
  (hpl : page.length ≤ 100000) (hp : p ≤ 100000) (hln : ln ≤ 200000)
  (ret : ∀ h' tk' t' e' ts x0' el', Fr h₀ L h' m → News h₀ L h' ((dLX, dictOf (lexL w ((if page[p]? = some 10 then ln + 1 else ln)) BX pb x0' x1 x2 x3 x4 x5) el') :: (pl, W.listOf [Value.int ((p + 1 : Nat) : Int) t'].toArray e') :: news) → Q (.str (S ((page.drop p).take 1)) ts) (Shared.mk h' s0g s0d tk' s0o)) :
  codeAny (model PySem.Challenge.rw_kl0306_01.row.prog w) (aA dp un gd env outer) (.call (.ref 66) ⟨[.ref LX], []⟩) (fun r s' => match r with | .ok (.ret v) => Q v s' | .ok _ => False | .error e => E e s') (Shared.mk s0h s0g s0d s0t s0o) := by
  have hStop0 : StopAt "call ref" := trivial
  revert X; k_fill; intro X
  have hR0 := hR
  show (let zG : Prop := _; zG)
  intro zG
  obtain ⟨ps, bd, sc, qual, dc, pm, ctv, c', oc, vs, t, hrp, hm1, hm2, hd1, hd2⟩ := hR0
  have ne1 : LX ≠ pl := o0 _ hLX
  have ne2 : BX ≠ pl := o0 _ hBX
  have ne3 : dBX ≠ pl := o0 _ hdBX
  have ne4 : fR ≠ pl := o0 _ hm1
  have ne5 : LX ≠ dLX := o1 _ hLX
  have ne6 : BX ≠ dLX := o1 _ hBX
  have ne7 : dBX ≠ dLX := o1 _ hdBX
  have ne8 : fR ≠ dLX := o1 _ hm1
  replace N : News h₀ L s0h ((dLX, dictOf (lexL w ln BX pb x0 x1 x2 x3 x4 x5) el) :: (LX, instObj 83 dLX) :: (BX, instObj 83 dBX) :: (dBX, dictOf (benL w pbB fR b0 b1 b2 b3 b4 b5 b6) 5) :: (fR, _) :: (pl, W.listOf [Value.int (p : Nat) ti].toArray e) :: news) := news_sub N (by wtm_at "msub")
  have C219 : CodeHd h₀ 223 219 := codeHd_of_K X (by kernel_rfl)
  (try k_unmd); k_unfold
  k_dflt (refine' code_def ?k1 ?k2 ?k3 ?k4 ?k5 ?kA ?kF ?kK ?k6 ?k7 ?k8 ?k9 ?kB ?_ ?c2 ?c3 ?c4 ?c5; (case kA => exact rfl); (case kF => assumption); (case kK => assumption); (case k1 => k_asm); (case k2 => k_asm); (case k3 => k_asm); (case k4 => k_asm); (case k5 => k_asm); (case k6 => k_is); (case k7 => k_is); (case k8 => first | wtm_at "rm" | (simp only [recursionLimit] at *; wtm_at "lo")); (case k9 => first | exact BindsTo.of_eq rfl | exact binds_K (by k_in) rfl (by k_is) rfl rfl rfl | (refine' kp_binds ?kx ?ke; (case kx => k_in); (case ke => exact fun _ => rfl))); (case c5 => decide); (case kB => exact locs rfl); (case c2 => exact rfl); (case c3 => exact rfl); (case c4 => exact rfl); k_whole; intro g' L' h' FG' F' N' B' X' T'; (try dsimp only); (try k_unmd); (try k_fold); (show (let zA := _; let ze := _; wpAny _ zA (execs _ ze) _ _ _)); intro zA ze; (try (refine gen_tok ?_; intro t1')); (show (let zG : Prop := _; zG)); intro zG; have F1' := F'; clear F'; obtain ⟨m1', F', em_self⟩ : ∃ m1 : Str → Option Value, Fr g' L' h' m1 ∧ m1 (Str.ofString "self") = some (.ref LX) := ⟨_, F1', by rfl⟩; clear F1'; (try k_unmd); k_unfold; (try k_unmd))
  k_steps
  refine stop_in ?_
  rename Fr _ _ _ _ => FA
  rename News _ _ _ _ => NA
  obtain ⟨rest, hrest⟩ : ∃ r : List (Addr × Obj), r = (dLX, dictOf (lexL w ln BX pb x0 x1 x2 x3 x4 x5) el) :: (LX, instObj 83 dLX) :: (BX, instObj 83 dBX) :: (dBX, dictOf (benL w pbB fR b0 b1 b2 b3 b4 b5 b6) 5) :: news := ⟨_, rfl⟩
  have hin : ∀ {q}, q ∈ news → q ∈ rest := fun h => by rw [hrest]; exact .tail _ (.tail _ (.tail _ (.tail _ h)))
  have N2 : News g' L' _ ((pl, W.listOf [Value.int (p : Nat) ti].toArray e) :: rest) := news_sub NA (by rw [hrest]; wtm_at "msub")
  have or : ∀ q ∈ rest, q.1 ≠ pl := by
    rw [hrest]
    exact fa_cons o2 (fa_cons ne1 (fa_cons ne2 (fa_cons ne3 o0)))
  refine c_read (h₀ := g') (L := L') page tt ti _ fR cT cP pl p e oT oP B' FA X' N2 or T' ?r4 ?r5 ?r1 ?r2 (hin hT) (hin hP) hTd hPd (hR.mono fun q hq => hin hq) hpl hp ?_
  case r4 => exact rfl
  case r5 => exact rfl
  case r1 => k_room
  case r2 => k_units
  intro h9 tk9 t9 e9 ts9 F9 N9
  clear FA NA N2
  rw [hrest] at N9
  replace N9 : News g' L' h9 ((dLX, dictOf (lexL w ln BX pb x0 x1 x2 x3 x4 x5) el) :: (LX, instObj 83 dLX) :: (pl, W.listOf [Value.int ((p + 1 : Nat) : Int) t9].toArray e9) :: news) := news_sub N9 (by wtm_at "msub")
  cases hpg : page[p]? with
  | none =>
    rw [show (page.drop p).take 1 = [] from by rw [List.drop_eq_nil_of_le (by simpa using hpg)]; rfl]
    rw [hpg, show (page.drop p).take 1 = [] from by rw [List.drop_eq_nil_of_le (by simpa using hpg)]; rfl, if_neg (by simp)] at ret
    k_steps
    rename News h₀ _ _ _ => NZ
    rename Fr h₀ _ _ _ => FZ
    exact ret _ _ _ _ _ _ _ FZ (news_rc NZ)
  | some c =>
    rw [show (page.drop p).take 1 = [c] from by obtain ⟨h1, h2⟩ := List.getElem?_eq_some_iff.mp hpg; rw [List.drop_eq_getElem_cons h1, h2]; rfl]
    rw [hpg] at ret
    by_cases hc : c = 10
    · subst hc
      rw [show (page.drop p).take 1 = [10] from by obtain ⟨h1, h2⟩ := List.getElem?_eq_some_iff.mp hpg; rw [List.drop_eq_getElem_cons h1, h2]; rfl] at ret
      k_steps
      rename News h₀ _ _ _ => NZ
      rename Fr h₀ _ _ _ => FZ
      rw [show ((ln : Nat) : Int) + 1 = ((ln + 1 : Nat) : Int) from by wtm_at "lo"] at NZ
      exact ret _ _ _ _ _ _ _ FZ (news_rc NZ)
    · rw [if_neg (by simpa using hc)] at ret
      rw [show (page.drop p).take 1 = [c] from by obtain ⟨h1, h2⟩ := List.getElem?_eq_some_iff.mp hpg; rw [List.drop_eq_getElem_cons h1, h2]; rfl] at ret
      k_steps
      · rename (S [c] == Str.ofString "\n") = true => hb
        rw [sq_nl] at hb
        exact absurd (S_one_beq hb) hc
      · rename News h₀ _ _ _ => NZ
        rename Fr h₀ _ _ _ => FZ
        exact ret _ _ _ _ _ _ _ FZ (news_rc NZ)
theorem c_rc {w : World} {A₀ : Around} {base h₀ : Heap} {outer : List Env} {dp un : Nat} {gd : Option (List Code)} {env : Env} {L : Addr} {m : Str → Option Value} {news : List (Addr × Obj)} {loose : List Str} {mean : ExcName → Option Value} {mg mb : Str → Option Value} {s0h : Heap} {s0g : Array GenState} {s0d : Drawn} {s0t : Nat} {s0o : OsState} {Q E : Value → Shared → Prop} (page : List Nat) (tt ti : Tok) (LX dLX BX dBX pbB pb fR cT cP pl p ln e el : Nat) (oT oP : Obj) (b0 b1 b2 b3 b4 b5 b6 x0 x1 x2 x3 x4 x5 : Tok)
  (B : Below A₀ base outer h₀) (F : Fr h₀ L s0h m) (X : (hd.heap_39 w.params).In h₀)
  (N : News h₀ L s0h ((dLX, dictOf (lexL w ln BX pb x0 x1 x2 x3 x4 x5) el) :: (pl, W.listOf [Value.int (p : Nat) ti].toArray e) :: news)) (o0 : ∀ p ∈ news, p.1 ≠ pl) (o1 : ∀ p ∈ news, p.1 ≠ dLX) (o2 : dLX ≠ pl)
  (T : Top topProg loose mean mg mb h₀) (hf : env.frame = some L) (hke : env.scope.kind = .function) (hdp : dp + 48 < recursionLimit) (hun : un + 600 < cLine)
  (hLX : (LX, instObj 83 dLX) ∈ news) (hBX : (BX, instObj 83 dBX) ∈ news) (hdBX : (dBX, dictOf (benL w pbB fR b0 b1 b2 b3 b4 b5 b6) 5) ∈ news)
  (hT : (cT, oT) ∈ news) (hP : (cP, oP) ∈ news) (hTd : oT.data = .cell (some (.str (S page) tt))) (hPd : oP.data = .cell (some (.ref pl))) (hR : RdFn (hd.heap_39 w.params) news fR cT cP)
  (hpl : page.length ≤ 100000) (hp : p ≤ 100000) (hln : ln ≤ 200000)
  (ret : ∀ h' tk' t' e' ts x0' el', Fr h₀ L h' m → News h₀ L h' ((dLX, dictOf (lexL w ((if page[p]? = some 10 then ln + 1 else ln)) BX pb x0' x1 x2 x3 x4 x5) el') :: (pl, W.listOf [Value.int ((p + 1 : Nat) : Int) t'].toArray e') :: news) → Q (.str (S ((page.drop p).take 1)) ts) (Shared.mk h' s0g s0d tk' s0o)) :
  wpAny (model PySem.Challenge.rw_kl0306_01.row.prog w) (aA dp un gd env outer) (call (.ref 66) [.ref LX]) Q E (Shared.mk s0h s0g s0d s0t s0o) :=
  wpAny_call (c_rcC page tt ti LX dLX BX dBX pbB pb fR cT cP pl p ln e el oT oP b0 b1 b2 b3 b4 b5 b6 x0 x1 x2 x3 x4 x5 B F X N o0 o1 o2 T hf hke hdp hun hLX hBX hdBX hT hP hTd hPd hR hpl hp hln ret)
end Mine.Internal
end PartCrc
theorem Mine.Internal.fresh20 : True ∧ True := by
  w_top off
  first | (walk1; fail) | exact ⟨trivial, trivial⟩
section PartCturn
open PySem PySem.W PyProof.Rows PyProof.Rows.LCg
namespace Mine.Internal
theorem c_turn {w : World} {A₀ : Around} {base h₀ : Heap} {outer : List Env} {dp un : Nat} {gd : Option (List Code)} {env : Env} {L : Addr} {m : Str → Option Value} {news : List (Addr × Obj)} {loose : List Str} {mean : ExcName → Option Value} {mg mb : Str → Option Value} {s0h : Heap} {s0g : Array GenState} {s0d : Drawn} {s0t : Nat} {s0o : OsState} {Q E : Value → Shared → Prop} {A' : Around} {env' : Env} {y : Str} {py : Pos} {body : List Stmt} {E' : Value → Shared → Prop} {J : Nat → Shared → Prop} {Q' : Flow → Shared → Prop} {nn : Nat} (page : List Nat) (tt ti tS : Tok) (I bm LX dLX BX dBX pbB pb fR cT cP pl p e el : Nat) (oT oP : Obj) (b0 b1 b2 b3 b4 b5 b6 x0' x1 x2 x3 x4 x5 : Tok)
  (B : Below A₀ base outer h₀) (F : Fr h₀ L s0h m) (X : (hd.heap_39 w.params).In h₀)
  (N : News h₀ L s0h ((I, ciObj bm tS) :: (dLX, dictOf (lexL w (lnAt page p) BX pb x0' x1 x2 x3 x4 x5) el) :: (pl, W.listOf [Value.int (p : Nat) ti].toArray e) :: news)) (o0 : ∀ p ∈ news, p.1 ≠ pl) (o1 : ∀ p ∈ news, p.1 ≠ dLX) (o2 : dLX ≠ pl) (oI : ∀ p ∈ news, p.1 ≠ I) (oI1 : I ≠ pl) (oI2 : I ≠ dLX)
  (T : Top topProg loose mean mg mb h₀) (hf : env.frame = some L) (hke : env.scope.kind = .function) (hdp : dp + 48 < recursionLimit) (hun : un + 600 < cLine)
  (hbm : (bm, methodObj (.ref 66) (.ref LX)) ∈ news) (h66 : FnAt 66 h₀)
  (hLX : (LX, instObj 83 dLX) ∈ news) (hBX : (BX, instObj 83 dBX) ∈ news) (hdBX : (dBX, dictOf (benL w pbB fR b0 b1 b2 b3 b4 b5 b6) 5) ∈ news)
  (hT : (cT, oT) ∈ news) (hP : (cP, oP) ∈ news) (hTd : oT.data = .cell (some (.str (S page) tt))) (hPd : oP.data = .cell (some (.ref pl))) (hR : RdFn (hd.heap_39 w.params) news fR cT cP)
  (hpl : page.length ≤ 1000) (hp : p ≤ 1010)
  (retS : ∀ c h' tk' t' e' ts x0' el', page[p]? = some c → Fr h₀ L h' m → News h₀ L h' ((I, ciObj bm tS) :: (dLX, dictOf (lexL w (lnAt page (p + 1)) BX pb x0' x1 x2 x3 x4 x5) el') :: (pl, W.listOf [Value.int ((p + 1 : Nat) : Int) t'].toArray e') :: news) →
    wpAny (model PySem.Challenge.rw_kl0306_01.row.prog w) A' (assign (.Name y py) env' (.str (S [c]) ts)) (fun _ s₂ => wpAny (model PySem.Challenge.rw_kl0306_01.row.prog w) A' (execs body env') (fun f s₃ => match f with
          | .next | .cont => CiStep J nn s₃
          | .brk => Q' .next s₃
          | .ret v => Q' (.ret v) s₃) E' s₂) E' (Shared.mk h' s0g s0d tk' s0o))
  (retN : ∀ h' tk' t' e' x0' el', page[p]? = none → Fr h₀ L h' m → News h₀ L h' ((dLX, dictOf (lexL w (lnAt page (p + 1)) BX pb x0' x1 x2 x3 x4 x5) el') :: (pl, W.listOf [Value.int ((p + 1 : Nat) : Int) t'].toArray e') :: news) → Q' .next (Shared.mk h' s0g s0d tk' s0o)) :
  codeAny (model PySem.Challenge.rw_kl0306_01.row.prog w) (aA dp un gd env outer) (.call (.ref 66) ⟨[.ref LX], []⟩) (CiTurn PySem.Challenge.rw_kl0306_01.row.prog w A' env' (.Name y py) body E' J Q' I bm LX tS nn) (Shared.mk s0h s0g s0d s0t s0o) := by
  have hin : ∀ {q}, q ∈ news → q ∈ (I, ciObj bm tS) :: news := fun h => .tail _ h
  have N2 : News h₀ L s0h ((dLX, dictOf (lexL w (lnAt page p) BX pb x0' x1 x2 x3 x4 x5) el) :: (pl, W.listOf [Value.int (p : Nat) ti].toArray e) :: (I, ciObj bm tS) :: news) := news_sub N (sub_cons mem_1 (sub_cons mem_2 (sub_cons mem_0 sub_3)))
  refine codeAny_mono (c_rcC (Q := fun v s' => CiTurn PySem.Challenge.rw_kl0306_01.row.prog w A' env' (.Name y py) body E' J Q' I bm LX tS nn (.ok (.ret v)) s') (E := fun _ _ => False) page tt ti LX dLX BX dBX pbB pb fR cT cP pl p (lnAt page p) e el oT oP b0 b1 b2 b3 b4 b5 b6 x0' x1 x2 x3 x4 x5 B F X N2 (fun q hq => ?_) (fun q hq => ?_) o2 T hf hke hdp hun (hin hLX) (hin hBX) (hin hdBX) (hin hT) (hin hP) hTd hPd (hR.mono fun q hq => hin hq) (by (first | lia | omega)) (by (first | lia | omega)) (by have := lnAt_le page p; (first | lia | omega)) ?_) (fun r s' hr => ?_)
  · rcases List.mem_cons.mp hq with rfl | hq
    · exact oI1
    · exact o0 q hq
  · rcases List.mem_cons.mp hq with rfl | hq
    · exact oI2
    · exact o1 q hq
  · intro h' tk' t' e' ts x0' el' F' N'
    rw [lnAt_succ] at N'
    have hI := N' _ (.tail _ (.tail _ (.head _)))
    have hB := N' _ (.tail _ (.tail _ (.tail _ hbm)))
    refine ⟨(page.drop p).take 1, ts, rfl, ⟨_, hI.1, rfl, rfl⟩, ⟨hB.1, ?_⟩, fun hne => ?_, fun he h2 hx => ?_⟩
    · obtain ⟨a, b, c, d, e⟩ := h66
      exact ⟨a, b, c, d, F'.keep _ _ e⟩
    · cases hd : page.drop p with
      | nil => rw [hd] at hne; exact absurd rfl hne
      | cons c r =>
        show (let zG : Prop := _; zG)
        intro zG
        obtain ⟨h1, h2, h3⟩ := drop_cons hd
        (try k_unmd); k_unfold
        refine retS c h' tk' t' e' ts x0' el' h1 F' (news_sub N' (sub_cons mem_2 (sub_cons mem_0 (sub_cons mem_1 sub_3))))
    · have hpn : page[p]? = none := by
        cases hd : page.drop p with
        | nil => exact (drop_nil hd).1
        | cons c r => rw [hd] at he; cases he
      refine retN h2 tk' t' e' x0' el' hpn ?_ ?_
      · exact fr_but (I := I) F' (fun b o hb e => hx b o (fun h => hb (by simp [h])) e) hI.2.1.symm hI.2.2
      · refine news_but (I := I) (news_sub N' (sub_cons mem_0 (sub_cons mem_1 sub_3))) (fun b o hb e => hx b o (fun h => hb (by simp [h])) e) (fa_cons (Ne.symm oI2) (fa_cons (Ne.symm oI1) oI))
  · cases r with
    | error e => exact hr
    | ok fl => cases fl <;> exact hr
end Mine.Internal
end PartCturn
theorem Mine.Internal.fresh21 : True ∧ True := by
  w_top off
  first | (walk1; fail) | exact ⟨trivial, trivial⟩
section PartCtok
open PySem PySem.W PyProof.Rows PyProof.Rows.LCg
namespace Mine.Internal
set_option hygiene false in
local macro_rules | `(tactic| walk_at "execs cons") => `(tactic| (k_here; (with_reducible show wpAny _ _ (execs (Stmt.If _ _ _ _ :: Stmt.AugAssign _ _ _ _ :: Stmt.For _ _ _ _ _ :: _) _) _ _ _); refine stop_out ?_))
theorem news_tokT {h₀ h : Heap} {L : Addr} {a b c d e f : Addr × Obj} {l : List (Addr × Obj)} (N : News h₀ L h (a :: b :: c :: d :: e :: f :: l)) : News h₀ L h (a :: c :: f :: b :: l) := news_sub N (by wtm_at "msub")
theorem news_tokU {h₀ h : Heap} {L : Addr} {a b c d e f : Addr × Obj} {l : List (Addr × Obj)} (N : News h₀ L h (a :: c :: f :: b :: l)) (hd : d ∈ l) (he : e ∈ l) : News h₀ L h (a :: b :: c :: d :: e :: f :: l) := news_sub N (by wtm_at "msub")
theorem news_tokV {h₀ h : Heap} {L : Addr} {a b c d e f : Addr × Obj} {l : List (Addr × Obj)} (N : News h₀ L h (c :: f :: a :: b :: l)) (hd : d ∈ l) (he : e ∈ l) : News h₀ L h (a :: b :: c :: d :: e :: f :: l) := news_sub N (by wtm_at "msub")
theorem qle {q l : Nat} (h : q < l) (k : l ≤ 1000) : q + 1 ≤ 1010 := by wtm_at "lo"
theorem lnle {l n : Nat} (h : l ≤ 1 + n) (k : n ≤ 1000) : l ≤ 200000 := by wtm_at "lo"
theorem qle2 {q l : Nat} (h : q < l) (k : l ≤ 1000) : q + 1 + 1 ≤ 1010 := by wtm_at "lo"
theorem tokA_nil {tok : List Nat} {kk : Nat} (h : tokA [] = some (tok, kk)) : tok = [] ∧ kk = 1 := by
  cases (show some (([] : List Nat), 1) = some (tok, kk) from h); exact ⟨rfl, rfl⟩
theorem news_tok {h₀ h : Heap} {L : Addr} {a b c d e f : Addr × Obj} {l : List (Addr × Obj)} (N : News h₀ L h (a :: b :: c :: d :: e :: f :: l)) : News h₀ L h (c :: f :: l) := news_sub N (by wtm_at "msub")
theorem news_tokR {h₀ h : Heap} {L : Addr} {a b c d e f : Addr × Obj} {l : List (Addr × Obj)} (N : News h₀ L h (a :: b :: c :: d :: e :: f :: l)) : News h₀ L h (c :: f :: a :: b :: l) := news_sub N (by wtm_at "msub")
theorem news_tokO {h₀ h : Heap} {L : Addr} {a b c : Addr × Obj} {l : List (Addr × Obj)} (N : News h₀ L h (a :: b :: c :: l)) : News h₀ L h (a :: b :: l) := news_sub N (by wtm_at "msub")
local macro_rules | `(tactic| walk_at "inplaceOp Add str str") => `(tactic| (k_here; refine iadd_S rfl rfl (by simp only [List.length_cons, List.length_nil, List.length_append]; wtm_at "lo") (fun tA kA => ?_)))
set_option maxHeartbeats 2500000 in
theorem c_tok {w : World} {A₀ : Around} {base h₀ : Heap} {outer : List Env} {dp un : Nat} {gd : Option (List Code)} {env : Env} {L : Addr} {m : Str → Option Value} {news : List (Addr × Obj)} {loose : List Str} {mean : ExcName → Option Value} {mg mb : Str → Option Value} {s0h : Heap} {s0g : Array GenState} {s0d : Drawn} {s0t : Nat} {s0o : OsState} {Q E : Value → Shared → Prop} (page : List Nat) (tt ti : Tok) (LX dLX BX dBX pbB pb fR cT cP pl p e el epb : Nat) (oT oP : Obj) (b0 b1 b2 b3 b4 b5 b6 x0' x1 x2 x3 x4 x5 : Tok) (tok : List Nat) (k : Nat)
  (B : Below A₀ base outer h₀) (F : Fr h₀ L s0h m) (X : (hd.heap_39 w.params).In h₀)
  (N : News h₀ L s0h ((dLX, dictOf (lexL w (lnAt page p) BX pb x0' x1 x2 x3 x4 x5) el) :: (pl, W.listOf [Value.int (p : Nat) ti].toArray e) :: news)) (o0 : ∀ p ∈ news, p.1 ≠ pl) (o1 : ∀ p ∈ news, p.1 ≠ dLX) (o2 : dLX ≠ pl)
  (T : Top topProg loose mean mg mb h₀) (hf : env.frame = some L) (hke : env.scope.kind = .function) (hdp : dp + 72 < recursionLimit) (hun : un + 900 < cLine)
  (hLX : (LX, instObj 83 dLX) ∈ news) (hBX : (BX, instObj 83 dBX) ∈ news) (hdBX : (dBX, dictOf (benL w pbB fR b0 b1 b2 b3 b4 b5 b6) 5) ∈ news) (hpb : (pb, W.listOf ([] : List Value).toArray epb) ∈ news)
  (hT : (cT, oT) ∈ news) (hP : (cP, oP) ∈ news) (hTd : oT.data = .cell (some (.str (S page) tt))) (hPd : oP.data = .cell (some (.ref pl))) (hR : RdFn (hd.heap_39 w.params) news fR cT cP)
  (hpl : page.length ≤ 1000) (hp : p ≤ 1010) (hk : tokA (page.drop p) = some (tok, k))
  (ret : ∀ h' tk' t' e' ts x0' el', Fr h₀ L h' m → News h₀ L h' ((dLX, dictOf (lexL w (lnAt page (p + k)) BX pb x0' x1 x2 x3 x4 x5) el') :: (pl, W.listOf [Value.int ((p + k : Nat) : Int) t'].toArray e') :: news) → Q (.str (S tok) ts) (Shared.mk h' s0g s0d tk' s0o)) :
  wpAny (model PySem.Challenge.rw_kl0306_01.row.prog w) (aA dp un gd env outer) (call (.ref 73) [.ref LX]) Q E (Shared.mk s0h s0g s0d s0t s0o) := by
  have hStop0 : StopAt "call builtin:iter" := trivial
  have hStop1 : StopAt "exec For" := trivial
  have hStop2 : StopAt "call ref" := trivial
  revert X; k_fill; intro X
  have ne1 : LX ≠ pl := o0 _ hLX
  have ne2 : pb ≠ pl := o0 _ hpb
  have ne5 : LX ≠ dLX := o1 _ hLX
  have ne6 : pb ≠ dLX := o1 _ hpb
  replace N : News h₀ L s0h ((dLX, dictOf (lexL w (lnAt page p) BX pb x0' x1 x2 x3 x4 x5) el) :: (LX, instObj 83 dLX) :: (pb, W.listOf ([] : List Value).toArray epb) :: (pl, W.listOf [Value.int (p : Nat) ti].toArray e) :: news) := news_sub N (by wtm_at "msub")
  refine wpAny_call ?_
  have C219 : CodeHd h₀ 223 219 := codeHd_of_K X (by kernel_rfl)
  k_dflt (refine' code_def ?k1 ?k2 ?k3 ?k4 ?k5 ?kA ?kF ?kK ?k6 ?k7 ?k8 ?k9 ?kB ?_ ?c2 ?c3 ?c4 ?c5; (case kA => exact rfl); (case kF => assumption); (case kK => assumption); (case k1 => k_asm); (case k2 => k_asm); (case k3 => k_asm); (case k4 => k_asm); (case k5 => k_asm); (case k6 => k_is); (case k7 => k_is); (case k8 => first | wtm_at "rm" | (simp only [recursionLimit] at *; wtm_at "lo")); (case k9 => first | exact BindsTo.of_eq rfl | exact binds_K (by k_in) rfl (by k_is) rfl rfl rfl | (refine' kp_binds ?kx ?ke; (case kx => k_in); (case ke => exact fun _ => rfl))); (case c5 => decide); (case kB => exact locs rfl); (case c2 => exact rfl); (case c3 => exact rfl); (case c4 => exact rfl); k_whole; intro g' L' h' FG' F' N' B' X' T'; (try dsimp only); (try k_unmd); (try k_fold); (show (let zA := _; let ze := _; wpAny _ zA (execs _ ze) _ _ _)); intro zA ze; (try (refine gen_tok ?_; intro t1')); (show (let zG : Prop := _; zG)); intro zG; have F1' := F'; clear F'; obtain ⟨m1', F', em_self⟩ : ∃ m1 : Str → Option Value, Fr g' L' h' m1 ∧ m1 (Str.ofString "self") = some (.ref LX) := ⟨_, F1', by rfl⟩; clear F1'; (try k_unmd); k_unfold; (try k_unmd))
  k_steps
  refine stop_in ?_
  rename Fr _ _ _ _ => FA
  rename News _ _ _ _ => NA
  rename_i bm _ l1
  rw [show Str.ofString "" = S [] from rfl]
  refine iter_call FA NA (.head _) ?_
  intro I h2 F2 N2 l2
  obtain ⟨tS, N2⟩ : ∃ tS, News g' L' h2 ((I, ciObj bm tS) :: _) := ⟨_, N2⟩
  have hbn : ∀ q ∈ news, @LT.lt Nat _ q.1 bm := allLt_mem l1.2.2.2.2
  have hIb : @LT.lt Nat _ bm I := l2 _ (.head _)
  have hIn : ∀ q ∈ news, @LT.lt Nat _ q.1 I := fun q hq => Nat.lt_trans (hbn q hq) hIb
  clear FA NA
  k_lt l2
  k_steps
  refine stop_in ?_
  rename Fr _ _ _ _ => FA
  rename News _ _ _ _ => NA
  have h66 : FnAt 66 g' := ⟨_, _, _, _, X' _ _ (by k_is)⟩
  have hrs : ∀ a : Nat, (∀ p ∈ news, p.1 ≠ a) → bm ≠ a → ∀ q ∈ (bm, methodObj (.ref 66) (.ref LX)) :: news, q.1 ≠ a := fun a ha hb q hq => by
    rcases List.mem_cons.mp hq with rfl | hq
    · exact hb
    · exact ha q hq
  have hr0 := hrs pl o0 (by wtm_at "lo")
  have hr1 := hrs dLX o1 (by wtm_at "lo")
  have hrI := hrs I (fun q hq => Nat.ne_of_lt (hIn q hq)) (by wtm_at "lo")
  have hI1 : I ≠ pl := by wtm_at "lo"
  have hI2 : I ≠ dLX := by wtm_at "lo"
  have hins2 : ∀ {q}, q ∈ news → q ∈ (I, ciObj bm tS) :: (bm, methodObj (.ref 66) (.ref LX)) :: news := fun h => .tail _ (.tail _ h)
  have hq0 : ∀ q ∈ (I, ciObj bm tS) :: (bm, methodObj (.ref 66) (.ref LX)) :: news, q.1 ≠ pl := fun q hq => by
    rcases List.mem_cons.mp hq with rfl | hq
    · exact hI1
    · exact hr0 q hq
  have hq1 : ∀ q ∈ (I, ciObj bm tS) :: (bm, methodObj (.ref 66) (.ref LX)) :: news, q.1 ≠ dLX := fun q hq => by
    rcases List.mem_cons.mp hq with rfl | hq
    · exact hI2
    · exact hr1 q hq
  have hins : ∀ {q}, q ∈ news → q ∈ (bm, methodObj (.ref 66) (.ref LX)) :: news := fun h => .tail _ h
  refine (fun (zk : ∀ (J : (List Nat → List Nat → Nat → Prop) → Nat → Heap → Prop), (∀ (RR : List Nat → List Nat → Nat → Prop) (n : Nat) (h' : Heap) (q el' e' kk : Nat) (x0' t' tt' : Tok) (m' : Str → Option Value) (acc : List Nat), (Fr g' L' h' m') → (News g' L' h' ((I, ciObj bm tS) :: (bm, methodObj (.ref 66) (.ref LX)) :: (dLX, dictOf (lexL w (lnAt page (q)) BX pb x0' x1 x2 x3 x4 x5) el') :: (LX, instObj 83 dLX) :: (pb, W.listOf ([] : List Value).toArray epb) :: (pl, W.listOf [Value.int ((q : Nat) : Int) t'].toArray e') :: news)) → (n = (page.drop q).length) → (q ≤ 1010) → (acc.length ≤ q) → (RR acc (page.drop q) kk) → (q + kk = p + k) → (m' (Str.ofString "fiter") = some (.ref I)) → (m' (Str.ofString "self") = some (.ref LX)) → (m' (Str.ofString "token") = some (.str (S acc) tt')) → J RR n h') → (∀ (RR : List Nat → List Nat → Nat → Prop) (n : Nat) (h' : Heap) (zG : Prop), (∀ (q el' e' kk : Nat) (x0' t' tt' : Tok) (m' : Str → Option Value) (acc : List Nat), (Fr g' L' h' m') → (News g' L' h' ((I, ciObj bm tS) :: (bm, methodObj (.ref 66) (.ref LX)) :: (dLX, dictOf (lexL w (lnAt page (q)) BX pb x0' x1 x2 x3 x4 x5) el') :: (LX, instObj 83 dLX) :: (pb, W.listOf ([] : List Value).toArray epb) :: (pl, W.listOf [Value.int ((q : Nat) : Int) t'].toArray e') :: news)) → (n = (page.drop q).length) → (q ≤ 1010) → (acc.length ≤ q) → (RR acc (page.drop q) kk) → (q + kk = p + k) → (m' (Str.ofString "fiter") = some (.ref I)) → (m' (Str.ofString "self") = some (.ref LX)) → (m' (Str.ofString "token") = some (.str (S acc) tt')) → zG) → J RR n h' → zG) → _) => zk (fun RR n h' => ∀ zG : Prop, (∀ (q el' e' kk : Nat) (x0' t' tt' : Tok) (m' : Str → Option Value) (acc : List Nat), (Fr g' L' h' m') → (News g' L' h' ((I, ciObj bm tS) :: (bm, methodObj (.ref 66) (.ref LX)) :: (dLX, dictOf (lexL w (lnAt page (q)) BX pb x0' x1 x2 x3 x4 x5) el') :: (LX, instObj 83 dLX) :: (pb, W.listOf ([] : List Value).toArray epb) :: (pl, W.listOf [Value.int ((q : Nat) : Int) t'].toArray e') :: news)) → (n = (page.drop q).length) → (q ≤ 1010) → (acc.length ≤ q) → (RR acc (page.drop q) kk) → (q + kk = p + k) → (m' (Str.ofString "fiter") = some (.ref I)) → (m' (Str.ofString "self") = some (.ref LX)) → (m' (Str.ofString "token") = some (.str (S acc) tt')) → zG) → zG) (fun RR n h' q el' e' kk x0' t' tt' m' acc zh0 zh1 zh2 zh3 zh4 zh5 zh6 zh7 zh8 zh9 _ zk => zk q el' e' kk x0' t' tt' m' acc zh0 zh1 zh2 zh3 zh4 zh5 zh6 zh7 zh8 zh9) (fun RR n h' zG zk zh => zh zG zk)) ?_; intro J Jmk Jel
  have turnC : ∀ {dp1 un1 : Nat} {gd1 : Option (List Code)} {env1 : Env} {A' : Around} {env' : Env} {y : Str} {py : Pos} {body : List Stmt} {E' : Value → Shared → Prop} {J' : Nat → Shared → Prop} {Q' : Flow → Shared → Prop} {RR : List Nat → List Nat → Nat → Prop} {n : Nat} {h3 : Heap} {tk3 : Nat}, env1.frame = some L' → env1.scope.kind = .function → dp1 + 48 < recursionLimit → un1 + 600 < cLine → J RR n h3 →
      (∀ (c q kk el4 e4 : Nat) (r acc : List Nat) (h4 : Heap) (tk4 : Nat) (x0' t4 tt' ts4 : Tok) (m' : Str → Option Value), Fr g' L' h4 m' → News g' L' h4 ((I, ciObj bm tS) :: (bm, methodObj (.ref 66) (.ref LX)) :: (dLX, dictOf (lexL w (lnAt page (q + 1)) BX pb x0' x1 x2 x3 x4 x5) el4) :: (LX, instObj 83 dLX) :: (pb, W.listOf ([] : List Value).toArray epb) :: (pl, W.listOf [Value.int ((q + 1 : Nat) : Int) t4].toArray e4) :: news) → n = (c :: r).length → page.drop (q + 1) = r → q < page.length → acc.length ≤ q → RR acc (c :: r) kk → q + kk = p + k → m' (Str.ofString "fiter") = some (.ref I) → m' (Str.ofString "self") = some (.ref LX) → m' (Str.ofString "token") = some (.str (S acc) tt') →
        wpAny (model PySem.Challenge.rw_kl0306_01.row.prog w) A' (assign (.Name y py) env' (.str (S [c]) ts4)) (fun _ s₂ => wpAny (model PySem.Challenge.rw_kl0306_01.row.prog w) A' (execs body env') (fun f s₃ => match f with
          | .next | .cont => CiStep J' n s₃
          | .brk => Q' .next s₃
          | .ret v => Q' (.ret v) s₃) E' s₂) E' (Shared.mk h4 s0g s0d tk4 s0o)) →
      (∀ (q kk el4 e4 : Nat) (acc : List Nat) (h4 : Heap) (tk4 : Nat) (x0' t4 tt' : Tok) (m' : Str → Option Value), Fr g' L' h4 m' → News g' L' h4 ((dLX, dictOf (lexL w (lnAt page (q + 1)) BX pb x0' x1 x2 x3 x4 x5) el4) :: (pl, W.listOf [Value.int ((q + 1 : Nat) : Int) t4].toArray e4) :: (bm, methodObj (.ref 66) (.ref LX)) :: news) → RR acc [] kk → q + kk = p + k → m' (Str.ofString "token") = some (.str (S acc) tt') → Q' .next (Shared.mk h4 s0g s0d tk4 s0o)) →
      CiAt h3 I bm tS ∧ BmAt h3 bm LX ∧ codeAny (model PySem.Challenge.rw_kl0306_01.row.prog w) (aA dp1 un1 gd1 env1 (env :: outer)) (.call (.ref 66) ⟨[.ref LX], []⟩) (CiTurn PySem.Challenge.rw_kl0306_01.row.prog w A' env' (.Name y py) body E' J' Q' I bm LX tS n) (Shared.mk h3 s0g s0d tk3 s0o) := by
    intro dp1 un1 gd1 env1 A' env' y py body E' J' Q' RR n h3 tk3 r4 r5 r1 r2 JJ kS kN
    refine Jel _ _ _ _ ?_ JJ
    intro q el' e' kk x0' t' tt' m' acc F3 N3 hn hq hacc hkk hqk em1 em2 em3
    refine ⟨⟨_, (N3 _ (.head _)).1, rfl, rfl⟩, ⟨(N3 _ (.tail _ (.head _))).1, h66.imp fun _ ⟨_, _, _, e⟩ => ⟨_, _, _, F3.keep _ _ e⟩⟩, ?_⟩
    refine c_turn (Q := fun _ _ => True) (E := fun _ _ => True) (h₀ := g') (L := L') page tt t' tS I bm LX dLX BX dBX pbB pb fR cT cP pl q e' el' oT oP b0 b1 b2 b3 b4 b5 b6 x0' x1 x2 x3 x4 x5 B' F3 X' (news_tokT N3) hr0 hr1 o2 hrI hI1 hI2 T' r4 r5 r1 r2 (.head _) h66 (hins hLX) (hins hBX) (hins hdBX) (hins hT) (hins hP) hTd hPd (hR.mono fun q hq => hins hq) hpl hq ?_ ?_
    · intro c h4 tk4 t4 e4 ts4 x0' el4 hpc F4 N4
      obtain ⟨h1, h2⟩ := List.getElem?_eq_some_iff.mp hpc
      have hdr : page.drop q = c :: page.drop (q + 1) := by rw [List.drop_eq_getElem_cons h1, h2]
      rw [hdr] at hkk hn
      exact kS c q kk el4 e4 _ acc h4 tk4 x0' t4 tt' ts4 m' F4 (news_tokU N4 hLX hpb) hn rfl h1 hacc hkk hqk em1 em2 em3
    · intro h4 tk4 t4 e4 x0' el4 hpc F4 N4
      rw [List.drop_eq_nil_of_le (List.getElem?_eq_none_iff.mp hpc)] at hkk
      exact kN q kk el4 e4 acc h4 tk4 x0' t4 tt' m' F4 N4 hkk hqk em3
  refine ci_S (I := I) (bm := bm) (LX := LX) (tS := tS) rfl (J (fun acc r kk => acc = [] ∧ tokA r = some (tok, kk))) ?_ ?_
  · k_steps
    rename Fr g' _ _ _ => F3
    rename News g' _ _ _ => N3
    exact ciIn_S ⟨_, (N3 _ (.head _)).1, rfl, rfl⟩ (Jmk _ _ _ p _ _ k _ _ _ _ [] F3 N3 rfl hp (Nat.zero_le _) ⟨rfl, hk⟩ rfl (by ((try dsimp only); (repeat (first | exact if_pos rfl | with_reducible assumption | (refine (if_neg ?_).trans ?_; focus decide))); try rfl)) (by ((try dsimp only); (repeat (first | exact if_pos rfl | with_reducible assumption | (refine (if_neg ?_).trans ?_; focus decide))); try rfl)) (by ((try dsimp only); (repeat (first | exact if_pos rfl | with_reducible assumption | (refine (if_neg ?_).trans ?_; focus decide))); try rfl)))
  intro n h3 tk3 JJ
  refine turnC rfl rfl ?r1 ?r2 JJ ?_ ?_
  case r1 => k_room
  case r2 => k_units
  · intro c q kk el4 e4 r acc h4 tk4 x0' t4 tt' ts4 m' F4 N4 hn hdr2 hql hacc hkk0 hqk em1 em2 em3
    have hkk := hkk0.2
    rw [hkk0.1] at em3
    clear hkk0
    (try k_unmd); (try k_fold)
    k_steps
    · rename (S [c] == Str.ofString "\"") = true => ha
      rw [sqt] at ha
      rename (Builtin.Str.occurrences _ _ _ _ _).isEmpty = true => hw
      have hws := ws_no hw
      rw [S1_beq ha] at hkk
      refine stop_in ?_
      show (let zG : Prop := _; zG)
      intro zG
      obtain ⟨k2, hk2, hkk2⟩ := tokA_q hkk
      clear hkk hn
      (try k_unmd); k_unfold
      refine ci_S (I := I) (bm := bm) (LX := LX) (tS := tS) rfl (J (fun acc r kk => tokQ acc r = some (tok, kk))) ?_ ?_
      · k_steps
        rename Fr g' _ _ _ => F3
        rename News g' _ _ _ => N3
        exact ciIn_S ⟨_, (N3 _ (.head _)).1, rfl, rfl⟩ (Jmk _ _ _ (q + 1) _ _ k2 _ _ _ _ [] F3 N3 rfl (qle hql hpl) (Nat.zero_le _) (by rw [hdr2]; exact hk2) (qk1 hqk hkk2) (by ((try dsimp only); (repeat (first | exact if_pos rfl | with_reducible assumption | (refine (if_neg ?_).trans ?_; focus decide))); try rfl)) (by ((try dsimp only); (repeat (first | exact if_pos rfl | with_reducible assumption | (refine (if_neg ?_).trans ?_; focus decide))); try rfl)) (by ((try dsimp only); (repeat (first | exact if_pos rfl | with_reducible assumption | (refine (if_neg ?_).trans ?_; focus decide))); try rfl)))
      clear hdr2 hql hacc hqk em1 em2 em3 hk2 hkk2 JJ
      intro n h3 tk3 JJ
      refine turnC rfl rfl ?r3 ?r4 JJ ?_ ?_
      case r3 => k_room
      case r4 => k_units
      · intro c q kk el4 e4 r acc h4 tk4 x0' t4 tt' ts4 m' F4 N4 hn hdr2 hql hacc hkk hqk em1 em2 em3
        (try k_unmd); (try k_fold)
        k_steps
        · rename (S [c] == Str.ofString "\"") = true => ha
          rw [sqt] at ha
          rw [S1_beq ha] at hkk
          obtain ⟨e1, e2⟩ := tokQ_q hkk
          rename News h₀ _ _ _ => NZ
          rename Fr h₀ _ _ _ => FZ
          rw [show q + 1 = p + k from by rw [← hqk, e2]] at NZ
          rw [← e1]
          exact ret _ _ _ _ _ _ _ FZ (news_tok NZ)
        · rename (S [c] == Str.ofString "\\") = true => hb
          rw [sbs] at hb
          rw [S1_beq hb] at hkk
          exact (tokQ_b hkk).elim
        · rename (S [c] == Str.ofString "\"") = false => ha
          rw [sqt] at ha
          show (let zG : Prop := _; zG)
          intro zG
          obtain ⟨k2, hk2, hkk2⟩ := tokQ_o (S1_bne ha) hkk
          rename Fr g' _ _ _ => F5
          rename News g' _ _ _ => N5
          (try k_unmd); k_unfold
          show CiStep _ _ _
          exact cistep_S (k := (page.drop (q + 1)).length) (by rw [hdr2, hn]; exact Nat.lt_succ_self _) (Jmk _ _ _ (q + 1) _ _ k2 _ _ _ _ (acc ++ [c]) F5 N5 rfl (qle hql hpl) (len_snoc hacc) (by rw [hdr2]; exact hk2) (qk1 hqk hkk2) (by ((try dsimp only); (repeat (first | exact if_pos rfl | with_reducible assumption | (refine (if_neg ?_).trans ?_; focus decide))); try rfl)) (by ((try dsimp only); (repeat (first | exact if_pos rfl | with_reducible assumption | (refine (if_neg ?_).trans ?_; focus decide))); try rfl)) (by ((try dsimp only); (repeat (first | exact if_pos rfl | with_reducible assumption | (refine (if_neg ?_).trans ?_; focus decide))); try rfl)))
      · intro q kk el4 e4 acc h4 tk4 x0' t4 tt' m' F4 N4 hkk hqk em3
        exact absurd hkk (by simp [tokQ_n])
    · rename (S [c] == Str.ofString "\"") = false => ha
      rw [sqt] at ha
      rename (Builtin.Str.occurrences _ _ _ _ _).isEmpty = true => hw
      have hws := ws_no hw
      refine stop_in ?_
      clear JJ
      refine (fun (zk : ∀ (R : Heap → Prop), (∀ (h' : Heap) (q2 d k2 el' e' : Nat) (x0' t' tt' td : Tok) (m' : Str → Option Value), (Fr g' L' h' m') → (News g' L' h' ((I, ciObj bm tS) :: (bm, methodObj (.ref 66) (.ref LX)) :: (dLX, dictOf (lexL w (lnAt page (q2)) BX pb x0' x1 x2 x3 x4 x5) el') :: (LX, instObj 83 dLX) :: (pb, W.listOf ([] : List Value).toArray epb) :: (pl, W.listOf [Value.int ((q2 : Nat) : Int) t'].toArray e') :: news)) → (q2 ≤ 1010) → (1 ≤ q2) → (tokW [d] (page.drop q2) = some (tok, k2)) → (q2 + k2 = p + k) → (m' (Str.ofString "fiter") = some (.ref I)) → (m' (Str.ofString "self") = some (.ref LX)) → (m' (Str.ofString "token") = some (.str (S []) tt')) → (m' (Str.ofString "ch") = some (.str (S [d]) td)) → R h') → (∀ (h' : Heap) (zG : Prop), (∀ (q2 d k2 el' e' : Nat) (x0' t' tt' td : Tok) (m' : Str → Option Value), (Fr g' L' h' m') → (News g' L' h' ((I, ciObj bm tS) :: (bm, methodObj (.ref 66) (.ref LX)) :: (dLX, dictOf (lexL w (lnAt page (q2)) BX pb x0' x1 x2 x3 x4 x5) el') :: (LX, instObj 83 dLX) :: (pb, W.listOf ([] : List Value).toArray epb) :: (pl, W.listOf [Value.int ((q2 : Nat) : Int) t'].toArray e') :: news)) → (q2 ≤ 1010) → (1 ≤ q2) → (tokW [d] (page.drop q2) = some (tok, k2)) → (q2 + k2 = p + k) → (m' (Str.ofString "fiter") = some (.ref I)) → (m' (Str.ofString "self") = some (.ref LX)) → (m' (Str.ofString "token") = some (.str (S []) tt')) → (m' (Str.ofString "ch") = some (.str (S [d]) td)) → zG) → R h' → zG) → _) => zk (fun h' => ∀ zG : Prop, (∀ (q2 d k2 el' e' : Nat) (x0' t' tt' td : Tok) (m' : Str → Option Value), (Fr g' L' h' m') → (News g' L' h' ((I, ciObj bm tS) :: (bm, methodObj (.ref 66) (.ref LX)) :: (dLX, dictOf (lexL w (lnAt page (q2)) BX pb x0' x1 x2 x3 x4 x5) el') :: (LX, instObj 83 dLX) :: (pb, W.listOf ([] : List Value).toArray epb) :: (pl, W.listOf [Value.int ((q2 : Nat) : Int) t'].toArray e') :: news)) → (q2 ≤ 1010) → (1 ≤ q2) → (tokW [d] (page.drop q2) = some (tok, k2)) → (q2 + k2 = p + k) → (m' (Str.ofString "fiter") = some (.ref I)) → (m' (Str.ofString "self") = some (.ref LX)) → (m' (Str.ofString "token") = some (.str (S []) tt')) → (m' (Str.ofString "ch") = some (.str (S [d]) td)) → zG) → zG) (fun h' q2 d k2 el' e' x0' t' tt' td m' zh0 zh1 zh2 zh3 zh4 zh5 zh6 zh7 zh8 zh9 _ zk => zk q2 d k2 el' e' x0' t' tt' td m' zh0 zh1 zh2 zh3 zh4 zh5 zh6 zh7 zh8 zh9) (fun h' zG zk zh => zh zG zk)) ?_; intro R Rmk Rel
      refine execs_join R ?_ ?_
      · k_steps
        · rename (S [c] == Str.ofString "\\") = true => hb
          rw [sbs] at hb
          rw [S1_beq hb] at hkk
          show (let zG : Prop := _; zG)
          intro zG
          obtain ⟨d, r', k2, hr2, hk2, hkk2⟩ := tokA_b hkk
          rw [hr2] at hdr2
          have hd3 := (drop_cons hdr2).2.1
          (try k_unmd); k_unfold
          refine stop_in ?_
          rename Fr _ _ _ _ => FR
          rename News _ _ _ _ => NR
          show wpAny _ _ (call (.ref 66) [.ref LX]) _ _ _
          refine c_rc (h₀ := g') (L := L') page tt _ LX dLX BX dBX pbB pb fR cT cP pl (q + 1) (lnAt page (q + 1)) _ _ oT oP b0 b1 b2 b3 b4 b5 b6 _ x1 x2 x3 x4 x5 B' FR X' (news_tokR NR) hq0 hq1 o2 T' ?s4 ?s5 ?s1 ?s2 (hins2 hLX) (hins2 hBX) (hins2 hdBX) (hins2 hT) (hins2 hP) hTd hPd (hR.mono fun q hq => hins2 hq) (Nat.le_trans hpl (by decide)) (Nat.le_trans (qle hql hpl) (by decide)) (lnle (lnAt_le page (q + 1)) hpl) ?_
          case s4 => exact rfl
          case s5 => exact rfl
          case s1 => k_room
          case s2 => k_units
          intro h6 tk6 t6 e6 ts6 x0' el6 F6 N6
          rw [lnAt_succ] at N6
          rw [show (page.drop (q + 1)).take 1 = [d] from by rw [hdr2]; rfl]
          replace N6 := news_tokV N6 hLX hpb
          clear NR FR
          k_steps
          rename Fr g' _ _ _ => F5
          rename News g' _ _ _ => N5
          exact join_mk (Rmk _ (q + 1 + 1) d k2 _ _ _ _ _ _ _ F5 N5 (qle2 hql hpl) (Nat.succ_le_succ (Nat.zero_le _)) (by rw [hd3]; exact hk2) (qk2 hqk hkk2) (by ((try dsimp only); (repeat (first | exact if_pos rfl | with_reducible assumption | (refine (if_neg ?_).trans ?_; focus decide))); try rfl)) (by ((try dsimp only); (repeat (first | exact if_pos rfl | with_reducible assumption | (refine (if_neg ?_).trans ?_; focus decide))); try rfl)) (by ((try dsimp only); (repeat (first | exact if_pos rfl | with_reducible assumption | (refine (if_neg ?_).trans ?_; focus decide))); try rfl)) (by ((try dsimp only); (repeat (first | exact if_pos rfl | with_reducible assumption | (refine (if_neg ?_).trans ?_; focus decide))); try rfl)))
        · rename (S [c] == Str.ofString "\\") = false => hb
          rw [sbs] at hb
          show (let zG : Prop := _; zG)
          intro zG
          obtain ⟨k2, hk2, hkk2⟩ := tokA_o hws (S1_bne ha) (S1_bne hb) hkk
          rename Fr g' _ _ _ => F5
          rename News g' _ _ _ => N5
          (try k_unmd); k_unfold
          exact join_mk (Rmk _ (q + 1) c k2 _ _ _ _ _ _ _ F5 N5 (qle hql hpl) (Nat.succ_le_succ (Nat.zero_le _)) (by rw [hdr2]; exact hk2) (qk1 hqk hkk2) (by ((try dsimp only); (repeat (first | exact if_pos rfl | with_reducible assumption | (refine (if_neg ?_).trans ?_; focus decide))); try rfl)) (by ((try dsimp only); (repeat (first | exact if_pos rfl | with_reducible assumption | (refine (if_neg ?_).trans ?_; focus decide))); try rfl)) (by ((try dsimp only); (repeat (first | exact if_pos rfl | with_reducible assumption | (refine (if_neg ?_).trans ?_; focus decide))); try rfl)) (by ((try dsimp only); (repeat (first | exact if_pos rfl | with_reducible assumption | (refine (if_neg ?_).trans ?_; focus decide))); try rfl)))
      clear hn hkk hdr2 hql hacc hqk em1 em2 em3 Rmk ha hw hws
      intro h5 tk5 RR5
      refine Rel _ _ ?_ RR5
      intro q d k2 el' e' x0' t' tt' td m' F5 N5 hq hq1' hk2 hqk em1 em2 em3 em4
      clear RR5 Rel
      k_steps
      refine stop_in ?_
      refine ci_S (I := I) (bm := bm) (LX := LX) (tS := tS) rfl (J (fun acc r kk => tokW acc r = some (tok, kk))) ?_ ?_
      · k_steps
        rename Fr g' _ _ _ => F3
        rename News g' _ _ _ => N3
        exact ciIn_S ⟨_, (N3 _ (.head _)).1, rfl, rfl⟩ (Jmk _ _ _ q _ _ k2 _ _ _ _ [d] F3 N3 rfl hq hq1' hk2 hqk (by ((try dsimp only); (repeat (first | exact if_pos rfl | with_reducible assumption | (refine (if_neg ?_).trans ?_; focus decide))); try rfl)) (by ((try dsimp only); (repeat (first | exact if_pos rfl | with_reducible assumption | (refine (if_neg ?_).trans ?_; focus decide))); try rfl)) (by ((try dsimp only); (repeat (first | exact if_pos rfl | with_reducible assumption | (refine (if_neg ?_).trans ?_; focus decide))); try rfl)))
      clear hq hq1' hk2 hqk em1 em2 em3 em4
      intro n h3 tk3 JJ
      refine turnC rfl rfl ?r5 ?r6 JJ ?_ ?_
      case r5 => k_room
      case r6 => k_units
      · intro c q kk el4 e4 r acc h4 tk4 x0' t4 tt' ts4 m' F4 N4 hn hdr2 hql hacc hkk hqk em1 em2 em3
        (try k_unmd); (try k_fold)
        k_steps
        · rename (S [c] == Str.ofString "\\") = true => hb
          rw [sbs] at hb
          rw [S1_beq hb] at hkk
          show (let zG : Prop := _; zG)
          intro zG
          obtain ⟨d, r', k2, hr2, hk2, hkk2⟩ := tokW_b hkk
          (try k_unmd); k_unfold
          rw [hr2] at hdr2 hn
          have hd3 := (drop_cons hdr2).2.1
          refine stop_in ?_
          rename Fr _ _ _ _ => FR
          rename News _ _ _ _ => NR
          show wpAny _ _ (call (.ref 66) [.ref LX]) _ _ _
          refine c_rc (h₀ := g') (L := L') page tt _ LX dLX BX dBX pbB pb fR cT cP pl (q + 1) (lnAt page (q + 1)) _ _ oT oP b0 b1 b2 b3 b4 b5 b6 _ x1 x2 x3 x4 x5 B' FR X' (news_tokR NR) hq0 hq1 o2 T' ?s6 ?s7 ?s8 ?s9 (hins2 hLX) (hins2 hBX) (hins2 hdBX) (hins2 hT) (hins2 hP) hTd hPd (hR.mono fun q hq => hins2 hq) (Nat.le_trans hpl (by decide)) (Nat.le_trans (qle hql hpl) (by decide)) (lnle (lnAt_le page (q + 1)) hpl) ?_
          case s6 => exact rfl
          case s7 => exact rfl
          case s8 => k_room
          case s9 => k_units
          intro h6 tk6 t6 e6 ts6 x0' el6 F6 N6
          rw [lnAt_succ] at N6
          rw [show (page.drop (q + 1)).take 1 = [d] from by rw [hdr2]; rfl]
          replace N6 := news_tokV N6 hLX hpb
          clear NR FR
          k_steps
          rename Fr g' _ _ _ => F5
          rename News g' _ _ _ => N5
          show CiStep _ _ _
          exact cistep_S (k := (page.drop (q + 1 + 1)).length) (by rw [hd3, hn]; exact Nat.lt_succ_of_lt (Nat.lt_succ_self _)) (Jmk _ _ _ (q + 1 + 1) _ _ k2 _ _ _ _ (acc ++ [d]) F5 N5 rfl (qle2 hql hpl) (Nat.le_succ_of_le (len_snoc hacc)) (by rw [hd3]; exact hk2) (qk2 hqk hkk2) (by ((try dsimp only); (repeat (first | exact if_pos rfl | with_reducible assumption | (refine (if_neg ?_).trans ?_; focus decide))); try rfl)) (by ((try dsimp only); (repeat (first | exact if_pos rfl | with_reducible assumption | (refine (if_neg ?_).trans ?_; focus decide))); try rfl)) (by ((try dsimp only); (repeat (first | exact if_pos rfl | with_reducible assumption | (refine (if_neg ?_).trans ?_; focus decide))); try rfl)))
        · rename (S [c] == Str.ofString "\\") = false => hb
          rw [sbs] at hb
          rename (Builtin.Str.occurrences _ _ _ _ _).isEmpty = true => hw
          have hws := ws_no hw
          show (let zG : Prop := _; zG)
          intro zG
          obtain ⟨k2, hk2, hkk2⟩ := tokW_o hws (S1_bne hb) hkk
          rename Fr g' _ _ _ => F5
          rename News g' _ _ _ => N5
          (try k_unmd); k_unfold
          show CiStep _ _ _
          exact cistep_S (k := (page.drop (q + 1)).length) (by rw [hdr2, hn]; exact Nat.lt_succ_self _) (Jmk _ _ _ (q + 1) _ _ k2 _ _ _ _ (acc ++ [c]) F5 N5 rfl (qle hql hpl) (len_snoc hacc) (by rw [hdr2]; exact hk2) (qk1 hqk hkk2) (by ((try dsimp only); (repeat (first | exact if_pos rfl | with_reducible assumption | (refine (if_neg ?_).trans ?_; focus decide))); try rfl)) (by ((try dsimp only); (repeat (first | exact if_pos rfl | with_reducible assumption | (refine (if_neg ?_).trans ?_; focus decide))); try rfl)) (by ((try dsimp only); (repeat (first | exact if_pos rfl | with_reducible assumption | (refine (if_neg ?_).trans ?_; focus decide))); try rfl)))
        · rename (Builtin.Str.occurrences _ _ _ _ _).isEmpty = false => hw
          have hws := ws_yes hw
          obtain ⟨e1, e2⟩ := tokW_ws hws hkk
          rename News h₀ _ _ _ => NZ
          rename Fr h₀ _ _ _ => FZ
          rw [show q + 1 = p + k from by rw [← hqk, e2]] at NZ
          rw [← e1]
          exact ret _ _ _ _ _ _ _ FZ (news_tok NZ)
      · intro q kk el4 e4 acc h4 tk4 x0' t4 tt' m' F4 N4 hkk hqk em3
        exact absurd hkk (by simp [tokW_n])
    · rename (Builtin.Str.occurrences _ _ _ _ _).isEmpty = false => hw
      have hws := ws_yes hw
      show (let zG : Prop := _; zG)
      intro zG
      obtain ⟨k2, hk2, hkk2⟩ := tokA_ws hws hkk
      rename Fr g' _ _ _ => F5
      rename News g' _ _ _ => N5
      (try k_unmd); k_unfold
      show CiStep _ _ _
      exact cistep_S (k := (page.drop (q + 1)).length) (by rw [hdr2, hn]; exact Nat.lt_succ_self _) (Jmk _ _ _ (q + 1) _ _ k2 _ _ _ _ [] F5 N5 rfl (qle hql hpl) (Nat.zero_le _) ⟨rfl, by rw [hdr2]; exact hk2⟩ (qk1 hqk hkk2) (by ((try dsimp only); (repeat (first | exact if_pos rfl | with_reducible assumption | (refine (if_neg ?_).trans ?_; focus decide))); try rfl)) (by ((try dsimp only); (repeat (first | exact if_pos rfl | with_reducible assumption | (refine (if_neg ?_).trans ?_; focus decide))); try rfl)) (by ((try dsimp only); (repeat (first | exact if_pos rfl | with_reducible assumption | (refine (if_neg ?_).trans ?_; focus decide))); try rfl)))
  · intro q kk el4 e4 acc h4 tk4 x0' t4 tt' m' F4 N4 hkk0 hqk em3
    obtain ⟨e1, e2⟩ := tokA_nil hkk0.2
    rw [hkk0.1] at em3
    clear hkk0
    k_steps
    rename News h₀ _ _ _ => NZ
    rename Fr h₀ _ _ _ => FZ
    rw [show q + 1 = p + k from by rw [← hqk, e2]] at NZ
    rw [← e1]
    exact ret _ _ _ _ _ _ _ FZ (news_tokO NZ)
end Mine.Internal
end PartCtok
end FastG
theorem Mine.Internal.fresh22 : True ∧ True := by
  w_top off
  first | (walk1; fail) | exact ⟨trivial, trivial⟩
section PartClx
open PySem PySem.W PyProof.Rows PyProof.Rows.LCg
namespace Mine.Internal
set_option hygiene false in
local macro_rules | `(tactic| walk_at "truthy ref") => `(tactic| (k_here; (with_reducible show wpAny _ _ (truthy (Value.ref _)) _ _ _); k_dflt (focus refine' truthy_cons ?_ ?_ ?_ ?_; rotate_right 4; k_asm; k_mem; wtm_at "lo"; k_whole)))
set_option hygiene false in
local macro_rules | `(tactic| walk_at "call builtin:list.pop") => `(tactic| (k_here; k_dflt (focus refine' pop0 ?_ ?_ ?_ ?_ ?_; rotate_right 5; k_asm; k_asm; k_upd; wtm_at "lo"); intro _ _ _))
set_option hygiene false in
local macro_rules | `(tactic| walk_at "call builtin:list.append") => `(tactic| (k_here; k_dflt (focus refine' app_L ?_ ?_ ?_ ?_ ?_; rotate_right 5; k_asm; k_asm; k_upd; wtm_at "lo"); intro _ _ _))
set_option maxHeartbeats 1500000 in
theorem c_pop {w : World} {A₀ : Around} {base h₀ : Heap} {outer : List Env} {dp un : Nat} {gd : Option (List Code)} {env : Env} {L : Addr} {m : Str → Option Value} {news : List (Addr × Obj)} {loose : List Str} {mean : ExcName → Option Value} {mg mb : Str → Option Value} {s0h : Heap} {s0g : Array GenState} {s0d : Drawn} {s0t : Nat} {s0o : OsState} {Q E : Value → Shared → Prop} (LX dLX BX pb ln e el : Nat) (x0 x1 x2 x3 x4 x5 : Tok) (v : Value) (vs : List Value)
  (B : Below A₀ base outer h₀) (F : Fr h₀ L s0h m) (X : (hd.heap_39 w.params).In h₀)
  (N : News h₀ L s0h ((pb, W.listOf (v :: vs).toArray e) :: news)) (o0 : ∀ p ∈ news, p.1 ≠ pb)
  (T : Top topProg loose mean mg mb h₀) (hf : env.frame = some L) (hke : env.scope.kind = .function) (hdp : dp + 24 < recursionLimit) (hun : un + 300 < cLine)
  (hLX : (LX, instObj 83 dLX) ∈ news) (hdLX : (dLX, dictOf (lexL w ln BX pb x0 x1 x2 x3 x4 x5) el) ∈ news) (hz : vs.length ≤ 500)
  (ret : ∀ h' tk' e', Fr h₀ L h' m → News h₀ L h' ((pb, W.listOf vs.toArray e') :: news) → Q v (Shared.mk h' s0g s0d tk' s0o)) :
  wpAny (model PySem.Challenge.rw_kl0306_01.row.prog w) (aA dp un gd env outer) (call (.ref 73) [.ref LX]) Q E (Shared.mk s0h s0g s0d s0t s0o) := by
  revert X; k_fill; intro X
  have ne1 : LX ≠ pb := o0 _ hLX
  have ne2 : dLX ≠ pb := o0 _ hdLX
  replace N : News h₀ L s0h ((LX, instObj 83 dLX) :: (dLX, dictOf (lexL w ln BX pb x0 x1 x2 x3 x4 x5) el) :: (pb, W.listOf (v :: vs).toArray e) :: news) := news_sub N (by wtm_at "msub")
  refine wpAny_call ?_
  k_dflt (refine' code_def ?k1 ?k2 ?k3 ?k4 ?k5 ?kA ?kF ?kK ?k6 ?k7 ?k8 ?k9 ?kB ?_ ?c2 ?c3 ?c4 ?c5; (case kA => exact rfl); (case kF => assumption); (case kK => assumption); (case k1 => k_asm); (case k2 => k_asm); (case k3 => k_asm); (case k4 => k_asm); (case k5 => k_asm); (case k6 => k_is); (case k7 => k_is); (case k8 => first | wtm_at "rm" | k_room); (case k9 => first | exact BindsTo.of_eq rfl | exact binds_K (by k_in) rfl (by k_is) rfl rfl rfl | (refine' kp_binds ?kx ?ke; (case kx => k_in); (case ke => exact fun _ => rfl))); (case c5 => decide); (case kB => exact locs rfl); (case c2 => exact rfl); (case c3 => exact rfl); (case c4 => exact rfl); k_whole; intro g' L' h' FG' F' N' B' X' T'; (try dsimp only); (try k_unmd); (try k_fold); (show (let zA := _; let ze := _; wpAny _ zA (execs _ ze) _ _ _)); intro zA ze; (try (refine gen_tok ?_; intro t1')); (show (let zG : Prop := _; zG)); intro zG; have F1' := F'; clear F'; obtain ⟨m1', F', em_self⟩ : ∃ m1 : Str → Option Value, Fr g' L' h' m1 ∧ m1 (Str.ofString "self") = some (.ref LX) := ⟨_, F1', by rfl⟩; clear F1'; (try k_unmd); k_unfold; (try k_unmd))
  k_steps
  rename News h₀ _ _ _ => NZ
  rename Fr h₀ _ _ _ => FZ
  exact ret _ _ _ FZ (drop1 (drop1 NZ))
set_option maxHeartbeats 1500000 in
theorem c_push {w : World} {A₀ : Around} {base h₀ : Heap} {outer : List Env} {dp un : Nat} {gd : Option (List Code)} {env : Env} {L : Addr} {m : Str → Option Value} {news : List (Addr × Obj)} {loose : List Str} {mean : ExcName → Option Value} {mg mb : Str → Option Value} {s0h : Heap} {s0g : Array GenState} {s0d : Drawn} {s0t : Nat} {s0o : OsState} {Q E : Value → Shared → Prop} (LX dLX BX pb ln e el : Nat) (x0 x1 x2 x3 x4 x5 : Tok) (v : Value) (vs : List Value)
  (B : Below A₀ base outer h₀) (F : Fr h₀ L s0h m) (X : (hd.heap_39 w.params).In h₀)
  (N : News h₀ L s0h ((pb, W.listOf vs.toArray e) :: news)) (o0 : ∀ p ∈ news, p.1 ≠ pb)
  (T : Top topProg loose mean mg mb h₀) (hf : env.frame = some L) (hke : env.scope.kind = .function) (hdp : dp + 24 < recursionLimit) (hun : un + 300 < cLine)
  (hLX : (LX, instObj 83 dLX) ∈ news) (hdLX : (dLX, dictOf (lexL w ln BX pb x0 x1 x2 x3 x4 x5) el) ∈ news) (hz : vs.length ≤ 500)
  (ret : ∀ h' tk' e', Fr h₀ L h' m → News h₀ L h' ((pb, W.listOf (vs ++ [v]).toArray e') :: news) → Q .none (Shared.mk h' s0g s0d tk' s0o)) :
  wpAny (model PySem.Challenge.rw_kl0306_01.row.prog w) (aA dp un gd env outer) (call (.ref 80) [.ref LX, v]) Q E (Shared.mk s0h s0g s0d s0t s0o) := by
  revert X; k_fill; intro X
  have ne1 : LX ≠ pb := o0 _ hLX
  have ne2 : dLX ≠ pb := o0 _ hdLX
  replace N : News h₀ L s0h ((LX, instObj 83 dLX) :: (dLX, dictOf (lexL w ln BX pb x0 x1 x2 x3 x4 x5) el) :: (pb, W.listOf vs.toArray e) :: news) := news_sub N (by wtm_at "msub")
  refine wpAny_call ?_
  k_dflt (refine' code_def ?k1 ?k2 ?k3 ?k4 ?k5 ?kA ?kF ?kK ?k6 ?k7 ?k8 ?k9 ?kB ?_ ?c2 ?c3 ?c4 ?c5; (case kA => exact rfl); (case kF => assumption); (case kK => assumption); (case k1 => k_asm); (case k2 => k_asm); (case k3 => k_asm); (case k4 => k_asm); (case k5 => k_asm); (case k6 => k_is); (case k7 => k_is); (case k8 => first | wtm_at "rm" | k_room); (case k9 => first | exact BindsTo.of_eq rfl | exact binds_K (by k_in) rfl (by k_is) rfl rfl rfl | (refine' kp_binds ?kx ?ke; (case kx => k_in); (case ke => exact fun _ => rfl))); (case c5 => decide); (case kB => exact locs rfl); (case c2 => exact rfl); (case c3 => exact rfl); (case c4 => exact rfl); k_whole; intro g' L' h' FG' F' N' B' X' T'; (try dsimp only); (try k_unmd); (try k_fold); (show (let zA := _; let ze := _; wpAny _ zA (execs _ ze) _ _ _)); intro zA ze; (try (refine gen_tok ?_; intro t1')); (show (let zG : Prop := _; zG)); intro zG; have F1' := F'; clear F'; obtain ⟨m1', F', em_self, em_token⟩ : ∃ m1 : Str → Option Value, Fr g' L' h' m1 ∧ m1 (Str.ofString "self") = some (.ref LX) ∧ m1 (Str.ofString "token") = some (v) := ⟨_, F1', by rfl, by rfl⟩; clear F1'; (try k_unmd); k_unfold; (try k_unmd))
  k_steps
  rename News h₀ _ _ _ => NZ
  rename Fr h₀ _ _ _ => FZ
  exact ret _ _ _ FZ (drop1 (drop1 NZ))
theorem news_lex {h₀ h : Heap} {L : Addr} {a b c : Addr × Obj} {l : List (Addr × Obj)} (N : News h₀ L h (a :: b :: c :: l)) : News h₀ L h (b :: c :: a :: l) := news_sub N (by wtm_at "msub")
set_option maxHeartbeats 1500000 in
theorem c_lex {w : World} {A₀ : Around} {base h₀ : Heap} {outer : List Env} {dp un : Nat} {gd : Option (List Code)} {env : Env} {L : Addr} {m : Str → Option Value} {news : List (Addr × Obj)} {loose : List Str} {mean : ExcName → Option Value} {mg mb : Str → Option Value} {s0h : Heap} {s0g : Array GenState} {s0d : Drawn} {s0t : Nat} {s0o : OsState} {Q E : Value → Shared → Prop} (BX : Nat)
  (B : Below A₀ base outer h₀) (F : Fr h₀ L s0h m) (X : (hd.heap_39 w.params).In h₀)
  (N : News h₀ L s0h news)
  (T : Top topProg loose mean mg mb h₀) (hf : env.frame = some L) (hke : env.scope.kind = .function) (hdp : dp + 24 < recursionLimit) (hun : un + 300 < cLine)
  (ret : ∀ (LX dLX pb : Nat) (x0' x1 x2 x3 x4 x5 : Tok) h' tk' e el, Fr h₀ L h' m → News h₀ L h' ((LX, instObj 83 dLX) :: (dLX, dictOf (lexL w (1) BX pb x0' x1 x2 x3 x4 x5) el) :: (pb, W.listOf ([] : List Value).toArray e) :: news) → (∀ p ∈ news, p.1 < dLX) → dLX < LX → LX < pb → Q (.ref LX) (Shared.mk h' s0g s0d tk' s0o)) :
  wpAny (model PySem.Challenge.rw_kl0306_01.row.prog w) (aA dp un gd env outer) (call (.ref 83) [.ref BX]) Q E (Shared.mk s0h s0g s0d s0t s0o) := by
  revert X; k_fill; intro X
  refine' call_cls ?k1 ?k2 ?k3 ?k4 ?k5 ?k6 ?_
  case k1 => k_asm
  case k2 => k_asm
  case k3 => k_asm
  case k4 => k_is
  case k5 => k_is
  case k6 => k_is
  k_whole
  intro x' d' h' F' N' l1 l2
  have hl1 := l1
  (try k_lt l1)
  (try k_lt2 l2)
  k_dflt (refine' code_def ?k1 ?k2 ?k3 ?k4 ?k5 ?kA ?kF ?kK ?k6 ?k7 ?k8 ?k9 ?kB ?_ ?c2 ?c3 ?c4 ?c5; (case kA => exact rfl); (case kF => assumption); (case kK => assumption); (case k1 => k_asm); (case k2 => k_asm); (case k3 => k_asm); (case k4 => k_asm); (case k5 => k_asm); (case k6 => k_is); (case k7 => k_is); (case k8 => first | wtm_at "rm" | k_room); (case k9 => first | exact BindsTo.of_eq rfl | exact binds_K (by k_in) rfl (by k_is) rfl rfl rfl | (refine' kp_binds ?kx ?ke; (case kx => k_in); (case ke => exact fun _ => rfl))); (case c5 => decide); (case kB => exact locs rfl); (case c2 => exact rfl); (case c3 => exact rfl); (case c4 => exact rfl); k_whole; intro g' L' h' FG' F' N' B' X' T'; (try dsimp only); (try k_unmd); (try k_fold); (show (let zA := _; let ze := _; wpAny _ zA (execs _ ze) _ _ _)); intro zA ze; (try (refine gen_tok ?_; intro t1')); (show (let zG : Prop := _; zG)); intro zG; have F1' := F'; clear F'; obtain ⟨m1', F', em_self, em_fp⟩ : ∃ m1 : Str → Option Value, Fr g' L' h' m1 ∧ m1 (Str.ofString "self") = some (.ref x') ∧ m1 (Str.ofString "fp") = some (.ref BX) := ⟨_, F1', by rfl, by rfl⟩; clear F1'; (try k_unmd); k_unfold; (try k_unmd))
  k_steps
  rename News h₀ _ _ _ => NZ
  rename Fr h₀ _ _ _ => FZ
  exact ret _ _ _ _ _ _ _ _ _ _ _ _ _ FZ (news_lex NZ) hl1 l2 (by wtm_at "lt_asm")
end Mine.Internal
end PartClx
theorem Mine.Internal.fresh23 : True ∧ True := by
  w_top off
  first | (walk1; fail) | exact ⟨trivial, trivial⟩
section PartCget
open PySem PySem.W PyProof.Rows PyProof.Rows.LCg
namespace Mine.Internal
theorem c_get {w : World} {A₀ : Around} {base h₀ : Heap} {outer : List Env} {dp un : Nat} {gd : Option (List Code)} {env : Env} {L : Addr} {m : Str → Option Value} {news : List (Addr × Obj)} {loose : List Str} {mean : ExcName → Option Value} {mg mb : Str → Option Value} {s0h : Heap} {s0g : Array GenState} {s0d : Drawn} {s0t : Nat} {s0o : OsState} {Q E : Value → Shared → Prop} (page : List Nat) (tt ti : Tok) (LX dLX BX dBX pbB pb fR cT cP pl q q' e el ep : Nat) (oT oP : Obj) (b0 b1 b2 b3 b4 b5 b6 x0' x1 x2 x3 x4 x5 : Tok) (w9 : List Nat) (pvs pvs' : List Value)
  (B : Below A₀ base outer h₀) (F : Fr h₀ L s0h m) (X : (hd.heap_39 w.params).In h₀)
  (N : News h₀ L s0h ((pb, W.listOf pvs.toArray ep) :: (dLX, dictOf (lexL w (lnAt page q) BX pb x0' x1 x2 x3 x4 x5) el) :: (pl, W.listOf [Value.int (q : Nat) ti].toArray e) :: news)) (o0 : ∀ p ∈ news, p.1 ≠ pl) (o1 : ∀ p ∈ news, p.1 ≠ dLX) (o2 : dLX ≠ pl) (o3 : ∀ p ∈ news, p.1 ≠ pb) (o5 : pb ≠ dLX ∧ pb ≠ pl)
  (T : Top topProg loose mean mg mb h₀) (hf : env.frame = some L) (hke : env.scope.kind = .function) (hdp : dp + 72 < recursionLimit) (hun : un + 900 < cLine)
  (hLX : (LX, instObj 83 dLX) ∈ news) (hBX : (BX, instObj 83 dBX) ∈ news) (hdBX : (dBX, dictOf (benL w pbB fR b0 b1 b2 b3 b4 b5 b6) 5) ∈ news)
  (hT : (cT, oT) ∈ news) (hP : (cP, oP) ∈ news) (hTd : oT.data = .cell (some (.str (S page) tt))) (hPd : oP.data = .cell (some (.ref pl))) (hR : RdFn (hd.heap_39 w.params) news fR cT cP)
  (hpl : page.length ≤ 1000) (hp : q ≤ 1010) (hz : pvs.length ≤ 500)
  (hc : (pvs = [] ∧ pvs' = [] ∧ ∃ k, tokA (page.drop q) = some (w9, k) ∧ q' = q + k) ∨ (q' = q ∧ ∃ t, pvs = .str (S w9) t :: pvs'))
  (ret : ∀ h' tk' t' e' ts x0' el' ep', Fr h₀ L h' m → News h₀ L h' ((pb, W.listOf pvs'.toArray ep') :: (dLX, dictOf (lexL w (lnAt page q') BX pb x0' x1 x2 x3 x4 x5) el') :: (pl, W.listOf [Value.int (q' : Nat) t'].toArray e') :: news) → Q (.str (S w9) ts) (Shared.mk h' s0g s0d tk' s0o)) :
  wpAny (model PySem.Challenge.rw_kl0306_01.row.prog w) (aA dp un gd env outer) (call (.ref 73) [.ref LX]) Q E (Shared.mk s0h s0g s0d s0t s0o) := by
  rcases hc with ⟨rfl, rfl, k, hk, rfl⟩ | ⟨rfl, t, rfl⟩
  · have hin : ∀ {x}, x ∈ news → x ∈ (pb, W.listOf ([] : List Value).toArray ep) :: news := fun h => .tail _ h
    have N2 : News h₀ L s0h ((dLX, dictOf (lexL w (lnAt page q) BX pb x0' x1 x2 x3 x4 x5) el) :: (pl, W.listOf [Value.int (q : Nat) ti].toArray e) :: (pb, W.listOf ([] : List Value).toArray ep) :: news) := news_sub N (sub_cons mem_1 (sub_cons mem_2 (sub_cons mem_0 sub_3)))
    refine c_tok page tt ti LX dLX BX dBX pbB pb fR cT cP pl q e el ep oT oP b0 b1 b2 b3 b4 b5 b6 x0' x1 x2 x3 x4 x5 w9 k B F X N2 (fun x hx => ?_) (fun x hx => ?_) o2 T hf hke hdp hun (hin hLX) (hin hBX) (hin hdBX) (.head _) (hin hT) (hin hP) hTd hPd (hR.mono fun x hx => hin hx) hpl hp hk ?_
    · rcases List.mem_cons.mp hx with rfl | hx
      · exact o5.2
      · exact o0 x hx
    · rcases List.mem_cons.mp hx with rfl | hx
      · exact o5.1
      · exact o1 x hx
    · intro h' tk' t' e' ts x0' el' F' N'
      refine ret h' tk' t' e' ts x0' el' ep F' (news_sub N' (sub_cons mem_2 (sub_cons mem_0 (sub_cons mem_1 sub_3))))
  · have hin : ∀ {x}, x ∈ news → x ∈ (dLX, dictOf (lexL w (lnAt page q') BX pb x0' x1 x2 x3 x4 x5) el) :: (pl, W.listOf [Value.int (q' : Nat) ti].toArray e) :: news := fun h => .tail _ (.tail _ h)
    refine c_pop LX dLX BX pb (lnAt page q') ep el x0' x1 x2 x3 x4 x5 (.str (S w9) t) pvs' B F X N (fun x hx => ?_) T hf hke (by (first | lia | omega)) (by (first | lia | omega)) (hin hLX) (.head _) (by simp only [List.length_cons] at hz; (first | lia | omega)) ?_
    · rcases List.mem_cons.mp hx with rfl | hx
      · exact Ne.symm o5.1
      rcases List.mem_cons.mp hx with rfl | hx
      · exact Ne.symm o5.2
      · exact o3 x hx
    · intro h' tk' e' F' N'
      exact ret h' tk' ti e t x0' el e' F' N'
end Mine.Internal
end PartCget
theorem Mine.Internal.fresh24 : True ∧ True := by
  w_top off
  first | (walk1; fail) | exact ⟨trivial, trivial⟩
section PartCgrown
open PySem PySem.W PyProof.Rows PyProof.Rows.LCg
namespace Mine.Internal
local macro_rules | `(tactic| walk_at "getAttr ref") => `(tactic| (k_here; (with_reducible show wpAny _ _ (getAttr (Value.ref _) (PySem.Str.ofString "append") _) _ _ _); k_dflt (focus refine' attr_append ?_ ?_ ?_ ?_; rotate_right 4; k_asm; k_asm; k_mem); intro wr' h' tk' F' N' l1; k_lt l1))
theorem news_fe {h₀ h : Heap} {L : Addr} {b I a n i p d x l t : Addr × Obj} {r : List (Addr × Obj)} (N : News h₀ L h (b :: I :: a :: n :: i :: p :: d :: x :: l :: t :: r)) : News h₀ L h (I :: a :: n :: i :: p :: d :: x :: l :: t :: b :: r) := news_sub N (by wtm_at "msub")
theorem news_we {h₀ h : Heap} {L : Addr} {a n i p d x l t : Addr × Obj} {r : List (Addr × Obj)} (N : News h₀ L h (a :: n :: i :: p :: d :: x :: l :: t :: r)) : News h₀ L h (n :: i :: p :: d :: x :: l :: t :: a :: r) := news_sub N (by wtm_at "msub")
theorem grown_get {page tok w9 : List Nat} {rest9 : List (List Nat)} {pvs : List Value} {q p k : Nat} {PA PB PC : Prop} (hk : tokA (page.drop p) = some (tok, k)) (hph : (PA ∧ w9 :: rest9 = [tok] ∧ pvs = [] ∧ q = p ∧ PB) ∨ (PC ∧ SgsAre pvs (w9 :: rest9) ∧ q = p + k)) :
    ∃ pvs', ((pvs = [] ∧ pvs' = [] ∧ ∃ k', tokA (page.drop q) = some (w9, k') ∧ p + k = q + k') ∨ (p + k = q ∧ ∃ t, pvs = .str (S w9) t :: pvs')) ∧ SgsAre pvs' rest9 := by
  rcases hph with ⟨-, h2, h3, h4, -⟩ | ⟨-, h2, h3⟩
  · injection h2 with h2 h5
    subst h2 h3 h4 h5
    exact ⟨[], .inl ⟨rfl, rfl, k, hk, rfl⟩, trivial⟩
  · cases pvs with
    | nil => exact h2.elim
    | cons v vs => exact ⟨vs, .inr ⟨h3.symm, h2.1.elim fun t hv => ⟨t, by rw [hv]⟩⟩, h2.2⟩
theorem grown_q {page tok w9 : List Nat} {rest9 : List (List Nat)} {pvs : List Value} {q p k : Nat} {PA PB PC : Prop} (hk : tokA (page.drop p) = some (tok, k)) (hph : (PA ∧ w9 :: rest9 = [tok] ∧ pvs = [] ∧ q = p ∧ PB) ∨ (PC ∧ SgsAre pvs (w9 :: rest9) ∧ q = p + k))
    (hpl : page.length ≤ 1000) (hp : p ≤ 1001) : q ≤ 1010 := by
  rcases hph with ⟨-, -, -, h4, -⟩ | ⟨-, -, h3⟩
  · exact h4 ▸ Nat.le_trans hp (by decide)
  · rw [h3]; have := tokA_le hk; rw [List.length_drop] at this; wtm_at "lo"
set_option maxHeartbeats 2500000 in
theorem c_grown {w : World} {A₀ : Around} {base h₀ : Heap} {outer : List Env} {dp un : Nat} {gd : Option (List Code)} {env : Env} {L : Addr} {m : Str → Option Value} {news : List (Addr × Obj)} {loose : List Str} {mean : ExcName → Option Value} {mg mb : Str → Option Value} {s0h : Heap} {s0g : Array GenState} {s0d : Drawn} {s0t : Nat} {s0o : OsState} {Q E : Value → Shared → Prop} (page : List Nat) (tt ti : Tok) (LX dLX BX dBX pbB pb fR cT cP pl p e el epb : Nat) (oT oP : Obj) (b0 b1 b2 b3 b4 b5 b6 x0' x1 x2 x3 x4 x5 : Tok) (tok : List Nat) (k : Nat) (pr : Nat) (pv : List Value) (tb : Array Value) (nf inf xs : List (List Nat))
  (B : Below A₀ base outer h₀) (F : Fr h₀ L s0h m) (X : (hd.heap_39 w.params).In h₀)
  (N : News h₀ L s0h ((172, tabObj tb) :: (dLX, dictOf (lexL w (lnAt page p) BX pb x0' x1 x2 x3 x4 x5) el) :: (pl, W.listOf [Value.int (p : Nat) ti].toArray e) :: (pb, W.listOf ([] : List Value).toArray epb) :: news)) (o0 : ∀ p ∈ news, p.1 ≠ pl) (o1 : ∀ p ∈ news, p.1 ≠ dLX) (o2 : dLX ≠ pl) (o3 : ∀ p ∈ news, p.1 ≠ pb) (o4 : ∀ p ∈ news, p.1 ≠ 172) (o5 : pb ≠ dLX ∧ pb ≠ pl ∧ 172 < dLX ∧ 172 < pl ∧ 172 < pb)
  (T : Top topProg loose mean mg mb h₀) (hf : env.frame = some L) (hke : env.scope.kind = .function) (hdp : dp + 200 < recursionLimit) (hun : un + 1500 < cLine)
  (hLX : (LX, instObj 83 dLX) ∈ news) (hBX : (BX, instObj 83 dBX) ∈ news) (hdBX : (dBX, dictOf (benL w pbB fR b0 b1 b2 b3 b4 b5 b6) 5) ∈ news)
  (hT : (cT, oT) ∈ news) (hP : (cP, oP) ∈ news) (hTd : oT.data = .cell (some (.str (S page) tt))) (hPd : oP.data = .cell (some (.ref pl))) (hR : RdFn (hd.heap_39 w.params) news fR cT cP)
  (hpr : (pr, tup pv) ∈ news) (hpv : IntsAre pv primesI) (htb : TabOk ⟨188, 71, 188, 96⟩ (Str.ofString "C14NWriterTarget._start" ++ Str.ofString ".<locals>." ++ Str.ofString "<lambda>") tb news)
  (hpl : page.length ≤ 1000) (hp : p ≤ 1001) (hk : tokA (page.drop p) = some (tok, k)) (hg : growO 60 [] [[]] [tok] = some (nf, inf)) (hto : toldO nf inf 10 0 = some xs) (hnf : nf.length ≤ 100 ∧ inf.length ≤ 100 ∧ xs.length ≤ 300 ∧ xs.flatten.length ≤ 5000) (hok : ∀ u ∈ nf, okW u = true)
  (ret : ∀ h' tk' gg t' e' ts x0' el' epb' tb' news', BareTo s0g gg → Fr h₀ L h' m → (∀ q ∈ news, q ∈ news') → (∀ q ∈ news', q ∈ news ∨ (172 < q.1 ∧ q.1 ≠ pl ∧ q.1 ≠ dLX ∧ q.1 ≠ pb)) → TabOk ⟨188, 71, 188, 96⟩ (Str.ofString "C14NWriterTarget._start" ++ Str.ofString ".<locals>." ++ Str.ofString "<lambda>") tb' news' → News h₀ L h' ((172, tabObj tb') :: (dLX, dictOf (lexL w (lnAt page (p + k)) BX pb x0' x1 x2 x3 x4 x5) el') :: (pl, W.listOf [Value.int ((p + k : Nat) : Int) t'].toArray e') :: (pb, W.listOf ([] : List Value).toArray epb') :: news') → Q (.str (S xs.flatten) ts) (Shared.mk h' gg s0d tk' s0o)) :
  wpAny (model PySem.Challenge.rw_kl0306_01.row.prog w) (aA dp un gd env outer) (call (.ref 284) [.ref LX, .ref pr]) Q E (Shared.mk s0h s0g s0d s0t s0o) := by
  have hStop0 : StopAt "call ref" := trivial
  have hStop1 : StopAt "subscriptTail" := trivial
  have hStop2 : StopAt "exec While" := trivial
  have hStop3 : StopAt "exec For Name Call cons nil" := trivial
  revert X; k_fill; intro X
  have ne1 : LX ≠ pl := o0 _ hLX
  have ne2 : LX ≠ dLX := o1 _ hLX
  have ne3 : LX ≠ pb := o3 _ hLX
  refine wpAny_call ?_
  k_dflt (refine' code_def ?k1 ?k2 ?k3 ?k4 ?k5 ?kA ?kF ?kK ?k6 ?k7 ?k8 ?k9 ?kB ?_ ?c2 ?c3 ?c4 ?c5; (case kA => exact rfl); (case kF => assumption); (case kK => assumption); (case k1 => k_asm); (case k2 => k_asm); (case k3 => k_asm); (case k4 => k_asm); (case k5 => k_asm); (case k6 => k_is); (case k7 => k_is); (case k8 => first | wtm_at "rm" | (simp only [recursionLimit] at *; wtm_at "lo")); (case k9 => first | exact BindsTo.of_eq rfl | exact binds_K (by k_in) rfl (by k_is) rfl rfl rfl | (refine' kp_binds ?kx ?ke; (case kx => k_in); (case ke => exact fun _ => rfl))); (case c5 => decide); (case kB => exact locs rfl); (case c2 => exact rfl); (case c3 => exact rfl); (case c4 => exact rfl); k_whole; intro g' L' h' FG' F' N' B' X' T'; (try dsimp only); (try k_unmd); (try k_fold); (show (let zA := _; let ze := _; wpAny _ zA (execs _ ze) _ _ _)); intro zA ze; (try (refine gen_tok ?_; intro t1')); (show (let zG : Prop := _; zG)); intro zG; have F1' := F'; clear F'; obtain ⟨m1', F', em_lexer, em_primes⟩ : ∃ m1 : Str → Option Value, Fr g' L' h' m1 ∧ m1 (Str.ofString "lexer") = some (.ref LX) ∧ m1 (Str.ofString "primes") = some (.ref pr) := ⟨_, F1', by rfl, by rfl⟩; clear F1'; (try k_unmd); k_unfold; (try k_unmd))
  k_steps
  refine stop_in ?_
  rename Fr _ _ _ _ => FA
  rename News _ _ _ _ => NA
  rename_i nm _ l1 _ _ _ _ a0 _ l2 ins _ l3 _ _
  have hnn : ∀ x ∈ news, @LT.lt Nat _ x.1 nm := allLt_mem l1.2.2.2.2
  have hA1 : @LT.lt Nat _ nm a0 := l2.1
  have hA2 : @LT.lt Nat _ a0 ins := l3.1
  have hA3 : @LT.lt Nat _ 172 nm ∧ @LT.lt Nat _ dLX nm ∧ @LT.lt Nat _ pl nm ∧ @LT.lt Nat _ pb nm := ⟨l1.1, l1.2.1, l1.2.2.1, l1.2.2.2.1⟩
  have hLXn : @LT.lt Nat _ LX nm := hnn _ hLX
  have hNA := NA
  obtain ⟨rest0, hrest0⟩ : ∃ r : List (Addr × Obj), r = (a0, W.listOf ([] : List Value).toArray 0) :: news := ⟨_, rfl⟩
  have N0 : News g' L' _ ((nm, W.listOf ([] : List Value).toArray 0) :: (ins, W.listOf [Value.ref a0].toArray 0) :: (pb, W.listOf ([] : List Value).toArray epb) :: (dLX, dictOf (lexL w (lnAt page p) BX pb x0' x1 x2 x3 x4 x5) el) :: (LX, instObj 83 dLX) :: (pl, W.listOf [Value.int (p : Nat) ti].toArray e) :: (172, tabObj tb) :: rest0) := news_sub NA (by rw [hrest0]; wtm_at "msub")
  clear NA hNA
  refine (fun (zk : ∀ (J0 : Nat → ((Str → Option Value)) → List (Addr × Obj) → Prop), (∀ (f : Nat) (m₁ : (Str → Option Value)) (nw : List (Addr × Obj)) (names inside push : List (List Nat)) (nml inl pvs : List Value) (en ei ep el' e' q : Nat) (x0' t' : Tok) (rest : List (Addr × Obj)), (growO f names inside push = some (nf, inf)) → (nw = (nm, W.listOf nml.toArray en) :: (ins, W.listOf inl.toArray ei) :: (pb, W.listOf pvs.toArray ep) :: (dLX, dictOf (lexL w (lnAt page q) BX pb x0' x1 x2 x3 x4 x5) el') :: (LX, instObj 83 dLX) :: (pl, W.listOf [Value.int (q : Nat) t'].toArray e') :: (172, tabObj tb) :: rest) → (SgsAre nml names) → (InsAt rest inl inside) → (Rising nm inl) → (((names = [] ∧ push = [tok] ∧ pvs = [] ∧ q = p ∧ inside = [[]]) ∨ (names ≠ [] ∧ SgsAre pvs push ∧ q = p + k))) → ((∀ x ∈ news, x ∈ rest)) → ((∀ x ∈ rest, x ∈ news ∨ (nm < x.1 ∧ x.1 ≠ ins))) → (m₁ (Str.ofString "lexer") = some (.ref LX)) → (m₁ (Str.ofString "primes") = some (.ref pr)) → (m₁ (Str.ofString "names") = some (.ref nm)) → (m₁ (Str.ofString "inside") = some (.ref ins)) → J0 f m₁ nw) → (∀ (f : Nat) (m₁ : (Str → Option Value)) (nw : List (Addr × Obj)) (zG : Prop), (∀ (names inside push : List (List Nat)) (nml inl pvs : List Value) (en ei ep el' e' q : Nat) (x0' t' : Tok) (rest : List (Addr × Obj)), (growO f names inside push = some (nf, inf)) → (nw = (nm, W.listOf nml.toArray en) :: (ins, W.listOf inl.toArray ei) :: (pb, W.listOf pvs.toArray ep) :: (dLX, dictOf (lexL w (lnAt page q) BX pb x0' x1 x2 x3 x4 x5) el') :: (LX, instObj 83 dLX) :: (pl, W.listOf [Value.int (q : Nat) t'].toArray e') :: (172, tabObj tb) :: rest) → (SgsAre nml names) → (InsAt rest inl inside) → (Rising nm inl) → (((names = [] ∧ push = [tok] ∧ pvs = [] ∧ q = p ∧ inside = [[]]) ∨ (names ≠ [] ∧ SgsAre pvs push ∧ q = p + k))) → ((∀ x ∈ news, x ∈ rest)) → ((∀ x ∈ rest, x ∈ news ∨ (nm < x.1 ∧ x.1 ≠ ins))) → (m₁ (Str.ofString "lexer") = some (.ref LX)) → (m₁ (Str.ofString "primes") = some (.ref pr)) → (m₁ (Str.ofString "names") = some (.ref nm)) → (m₁ (Str.ofString "inside") = some (.ref ins)) → zG) → J0 f m₁ nw → zG) → _) => zk (fun f m₁ nw => ∀ zG : Prop, (∀ (names inside push : List (List Nat)) (nml inl pvs : List Value) (en ei ep el' e' q : Nat) (x0' t' : Tok) (rest : List (Addr × Obj)), (growO f names inside push = some (nf, inf)) → (nw = (nm, W.listOf nml.toArray en) :: (ins, W.listOf inl.toArray ei) :: (pb, W.listOf pvs.toArray ep) :: (dLX, dictOf (lexL w (lnAt page q) BX pb x0' x1 x2 x3 x4 x5) el') :: (LX, instObj 83 dLX) :: (pl, W.listOf [Value.int (q : Nat) t'].toArray e') :: (172, tabObj tb) :: rest) → (SgsAre nml names) → (InsAt rest inl inside) → (Rising nm inl) → (((names = [] ∧ push = [tok] ∧ pvs = [] ∧ q = p ∧ inside = [[]]) ∨ (names ≠ [] ∧ SgsAre pvs push ∧ q = p + k))) → ((∀ x ∈ news, x ∈ rest)) → ((∀ x ∈ rest, x ∈ news ∨ (nm < x.1 ∧ x.1 ≠ ins))) → (m₁ (Str.ofString "lexer") = some (.ref LX)) → (m₁ (Str.ofString "primes") = some (.ref pr)) → (m₁ (Str.ofString "names") = some (.ref nm)) → (m₁ (Str.ofString "inside") = some (.ref ins)) → zG) → zG) (fun f m₁ nw names inside push nml inl pvs en ei ep el' e' q x0' t' rest zh0 zh1 zh2 zh3 zh4 zh5 zh6 zh7 zh8 zh9 zh10 zh11 _ zk => zk names inside push nml inl pvs en ei ep el' e' q x0' t' rest zh0 zh1 zh2 zh3 zh4 zh5 zh6 zh7 zh8 zh9 zh10 zh11) (fun f m₁ nw zG zk zh => zh zG zk)) ?_; intro J0 J0mk J0el
  refine' while_S J0 60 FA N0 ?jw ?_
  case' jw => refine J0mk _ _ _ ([]) ([[]]) ([tok]) ([]) ([Value.ref a0]) ([]) _ _ _ _ _ p _ _ rest0 hg rfl trivial ?z9a1 (⟨a0, rfl, hA1, trivial⟩) (.inl ⟨rfl, rfl, rfl, rfl, rfl⟩) ?z9a2 ?a3 ?a4 ?a5 ?a6 ?a7
  case z9a1 => exact ⟨⟨a0, 0, [], rfl, by rw [hrest0]; exact .head _, .nil⟩, trivial⟩
  case z9a2 => intro x hx; rw [hrest0]; exact .tail _ hx
  case a3 =>
    intro x hx
    rw [hrest0] at hx
    rcases List.mem_cons.mp hx with rfl | hx
    · exact .inr ⟨hA1, Nat.ne_of_lt hA2⟩
    · exact .inl hx
  case a4 => ((try dsimp only); (repeat (first | exact if_pos rfl | with_reducible assumption | (refine (if_neg ?_).trans ?_; focus decide))); try rfl)
  case a5 => ((try dsimp only); (repeat (first | exact if_pos rfl | with_reducible assumption | (refine (if_neg ?_).trans ?_; focus decide))); try rfl)
  case a6 => ((try dsimp only); (repeat (first | exact if_pos rfl | with_reducible assumption | (refine (if_neg ?_).trans ?_; focus decide))); try rfl)
  case a7 => ((try dsimp only); (repeat (first | exact if_pos rfl | with_reducible assumption | (refine (if_neg ?_).trans ?_; focus decide))); try rfl)
  clear FA N0
  intro f m₁ nw h₁ tk₁ JJ
  refine J0el _ _ _ _ ?_ JJ
  clear JJ
  rintro names inside push nml inl pvs en ei ep el' e' q x0' t' rest hgr rfl hnml hinl hris hph hsub hoffr em1 em2 em3 em4 F₁ N₁
  (try k_unmd); (try k_fold)
  have hnl := hnml.length
  have hil := hinl.length
  have hgl := grow_len hgr
  have hfz : names.length ≤ 100 ∧ inside.length ≤ 100 := by wtm_at "lo"
  have hfne : ∃ f', f = f' + 1 := by
    cases f with
    | zero => cases hgr
    | succ f' => exact ⟨f', rfl⟩
  obtain ⟨f', rfl⟩ := hfne
  k_steps
  · rename ((_ : Int) < _) => hlt
    have hlt' : names.length < inside.length := by
      have h : ((nml.length : Nat) : Int) < ((inl.length : Nat) : Int) := hlt
      wtm_at "lo"
    show (let zG : Prop := _; zG)
    intro zG
    obtain ⟨w9, rest9, hpush, hw1, hw2, hw3, hw4, hw5, hw6, hw7, hg2⟩ := grow_go hgr hlt'
    subst hpush
    (try k_unmd); k_unfold
    refine stop_in ?_
    show wpAny _ _ (call (.ref 73) [.ref LX]) _ _ _
    rename Fr _ _ _ _ => FB
    rename News _ _ _ _ => NB
    show (let zG : Prop := _; zG)
    intro zG
    obtain ⟨R, hRr⟩ : ∃ r : List (Addr × Obj), r = (nm, W.listOf nml.toArray en) :: (ins, W.listOf inl.toArray ei) :: (LX, instObj 83 dLX) :: (172, tabObj tb) :: rest := ⟨_, rfl⟩
    have hin : ∀ {x}, x ∈ news → x ∈ R := fun h => by rw [hRr]; exact .tail _ (.tail _ (.tail _ (.tail _ (hsub _ h))))
    have hoffR : ∀ a : Nat, (∀ p ∈ news, p.1 ≠ a) → a < nm → a ≠ 172 → ∀ x ∈ R, x.1 ≠ a := fun a ha hl h7 => by
      rw [hRr]
      exact fa_cons (Nat.ne_of_gt hl) (fa_cons (Nat.ne_of_gt (Nat.lt_trans hl (Nat.lt_trans hA1 hA2))) (fa_cons (ha _ hLX) (fa_cons (Ne.symm h7) fun x h => (hoffr x h).elim (ha x) fun h => Nat.ne_of_gt (Nat.lt_trans hl h.1))))
    have NB2 : News g' L' _ ((pb, W.listOf pvs.toArray ep) :: (dLX, dictOf (lexL w (lnAt page q) BX pb x0' x1 x2 x3 x4 x5) el') :: (pl, W.listOf [Value.int (q : Nat) t'].toArray e') :: R) := news_sub NB (by rw [hRr]; wtm_at "msub")
    obtain ⟨pvs', hget, hpv'⟩ := grown_get hk hph
    have hplen : pvs.length ≤ 500 := by
      rcases hget with ⟨h1, -⟩ | ⟨-, t, h1⟩
      · rw [h1]; exact Nat.zero_le _
      · rw [h1]
        have := hpv'.length
        simp only [List.length_cons]
        wtm_at "lo"
    have hq9 : q ≤ 1010 := grown_q hk hph hpl hp
    clear NB
    (try k_unmd); k_unfold
    refine c_get (h₀ := g') (L := L') page tt t' LX dLX BX dBX pbB pb fR cT cP pl q (p + k) e' el' ep oT oP b0 b1 b2 b3 b4 b5 b6 x0' x1 x2 x3 x4 x5 w9 pvs pvs' B' FB X' NB2 (hoffR pl o0 hA3.2.2.1 (Nat.ne_of_gt o5.2.2.2.1)) (hoffR dLX o1 hA3.2.1 (Nat.ne_of_gt o5.2.2.1)) o2 (hoffR pb o3 hA3.2.2.2 (Nat.ne_of_gt o5.2.2.2.2)) ⟨o5.1, o5.2.1⟩ T' ?r4 ?r5 ?r1 ?r2 (hin hLX) (hin hBX) (hin hdBX) (hin hT) (hin hP) hTd hPd (hR.mono fun x hx => hin hx) hpl hq9 hplen hget ?_
    case r4 => exact rfl
    case r5 => exact rfl
    case r1 => k_room
    case r2 => k_units
    intro h4 tk4 t4 e4 tw x0' el4 ep4 F4 N4
    rw [hRr] at N4
    clear FB NB2 hoffR hin hRr
    show (let zG : Prop := _; zG)
    intro zG
    obtain ⟨a, ea, ws0, hia, hma, hwi⟩ := hinl.get hw7
    obtain rfl := nil_of_ints hwi
    rw [← hnl] at hia
    have haa := Rising.gt hris hia
    have hai : a ≠ ins := by
      rcases hoffr _ hma with h | h
      · exact absurd (hnn _ h) (Nat.not_lt.mpr (Nat.le_of_lt haa))
      · exact h.2
    obtain ⟨rest1, hrest1⟩ : ∃ r : List (Addr × Obj), r = rest.filter (fun x => x.1 != a) := ⟨_, rfl⟩
    have hsub1 : ∀ x ∈ news, x ∈ rest1 := fun x hx => by
      rw [hrest1]
      refine List.mem_filter.mpr ⟨hsub x hx, ?_⟩
      have : x.1 ≠ a := Nat.ne_of_lt (Nat.lt_trans (hnn x hx) haa)
      simpa using this
    have hoff1 : ∀ x ∈ rest1, x.1 ≠ a ∧ (x ∈ news ∨ (nm < x.1 ∧ x.1 ≠ ins)) := fun x hx => by
      rw [hrest1] at hx
      obtain ⟨h1, h2⟩ := List.mem_filter.mp hx
      exact ⟨by simpa using h2, hoffr x h1⟩
    replace N4 : News g' L' h4 ((a, W.listOf ([] : List Value).toArray ea) :: (nm, W.listOf nml.toArray en) :: (ins, W.listOf inl.toArray ei) :: (pb, W.listOf pvs'.toArray ep4) :: (dLX, dictOf (lexL w (lnAt page (p + k)) BX pb x0' x1 x2 x3 x4 x5) el4) :: (LX, instObj 83 dLX) :: (pl, W.listOf [Value.int ((p + k : Nat) : Int) t4].toArray e4) :: (172, tabObj tb) :: rest1) := news_sub N4 (by
      have hr1 : ∀ x ∈ rest1, x ∈ rest := fun x h => by rw [hrest1] at h; exact (List.mem_filter.mp h).1
      refine sub_cons (lift_7 hma) (sub_cons (by wtm_at "mm") (sub_cons (by wtm_at "mm") (sub_cons (by wtm_at "mm") (sub_cons (by wtm_at "mm") (sub_cons (by wtm_at "mm") (sub_cons (by wtm_at "mm") (sub_cons (by wtm_at "mm") fun x h => lift_7 (hr1 x h))))))))
      )
    (try k_unmd); k_unfold
    k_steps
    refine stop_in ?_
    refine my_For (GB := fun g => s0g = g) (h₀ := g') ?_
    k_steps
    refine stop_in ?_
    rename Fr _ _ _ _ => FD
    rename News _ _ _ _ => ND
    refine c_places (h₀ := g') (L := L') w9 (valL w9) tw pr pv B' FD X' ND T' ?r4 ?r5 ?r1 ?r2 (.tail _ (.tail _ (.tail _ (.tail _ (.tail _ (.tail _ (.tail _ (.tail _ (hsub1 _ hpr))))))))) hpv (fun c hc => (okW_c hw1 c hc).1) (okW_l hw1).2 rfl (by wtm_at "inc") hw2 ?_
    case r4 => exact rfl
    case r5 => exact rfl
    case r1 => k_room
    case r2 => k_units
    intro D pws eD h5 tk5 F5 N5 hD hpws
    clear FD ND
    have hDn : @LT.lt Nat _ ins D := hD (ins, _) (.tail _ (.tail _ (.head _)))
    have hDa : @LT.lt Nat _ a D := hD (a, _) (.head _)
    have hDr : ∀ x ∈ rest1, @LT.lt Nat _ x.1 D := fun x hx => hD x (.tail _ (.tail _ (.tail _ (.tail _ (.tail _ (.tail _ (.tail _ (.tail _ hx))))))))
    replace N5 : News g' L' h5 ((a, W.listOf ([] : List Value).toArray ea) :: (nm, W.listOf nml.toArray en) :: (ins, W.listOf (inl ++ []).toArray ei) :: (pb, W.listOf (pvs' ++ []).toArray ep4) :: (dLX, dictOf (lexL w (lnAt page (p + k)) BX pb x0' x1 x2 x3 x4 x5) el4) :: (LX, instObj 83 dLX) :: (pl, W.listOf [Value.int ((p + k : Nat) : Int) t4].toArray e4) :: (172, tabObj tb) :: (D, W.listOf pws.toArray eD) :: rest1) := news_sub N5 (by rw [List.append_nil, List.append_nil]; wtm_at "msub")
    refine iter_list rfl ⟨_, (N5 _ (.tail _ (.tail _ (.tail _ (.tail _ (.tail _ (.tail _ (.tail _ (.tail _ (.head _)))))))))).1, rfl, _, rfl⟩ F5 N5 ?_
    intro I h6 hltI K
    have hIup := K.up
    refine (fun (zk : ∀ (J : Nat → ((Str → Option Value)) → List (Addr × Obj) → Prop), (∀ (i : Nat) (m' : (Str → Option Value)) (nw : List (Addr × Obj)) (ea' ei' ep' : Nat) (cur ext pe : List Value) (rest2 : List (Addr × Obj)), (nw = (a, W.listOf cur.toArray ea') :: (nm, W.listOf nml.toArray en) :: (ins, W.listOf (inl ++ ext).toArray ei') :: (pb, W.listOf (pvs' ++ pe).toArray ep') :: (dLX, dictOf (lexL w (lnAt page (p + k)) BX pb x0' x1 x2 x3 x4 x5) el4) :: (LX, instObj 83 dLX) :: (pl, W.listOf [Value.int ((p + k : Nat) : Int) t4].toArray e4) :: (172, tabObj tb) :: rest2) → (IntsAre cur (NI (List.range' inside.length i))) → (ext.length = i) → (InsAt rest2 ext (List.replicate i [])) → (SgsAre pe (((placesOf (valL w9)).take i).map letters0)) → (Rising nm (inl ++ ext)) → ((∀ x ∈ (D, W.listOf pws.toArray eD) :: rest1, x ∈ rest2)) → ((∀ x ∈ rest2, x ∈ rest1 ∨ (D ≤ x.1 ∧ x.1 ≠ I))) → (m' (Str.ofString "lexer") = some (.ref LX)) → (m' (Str.ofString "primes") = some (.ref pr)) → (m' (Str.ofString "names") = some (.ref nm)) → (m' (Str.ofString "inside") = some (.ref ins)) → (m' (Str.ofString "word") = some (.str (S w9) tw)) → J i m' nw) → (∀ (i : Nat) (m' : (Str → Option Value)) (nw : List (Addr × Obj)) (zG : Prop), (∀ (ea' ei' ep' : Nat) (cur ext pe : List Value) (rest2 : List (Addr × Obj)), (nw = (a, W.listOf cur.toArray ea') :: (nm, W.listOf nml.toArray en) :: (ins, W.listOf (inl ++ ext).toArray ei') :: (pb, W.listOf (pvs' ++ pe).toArray ep') :: (dLX, dictOf (lexL w (lnAt page (p + k)) BX pb x0' x1 x2 x3 x4 x5) el4) :: (LX, instObj 83 dLX) :: (pl, W.listOf [Value.int ((p + k : Nat) : Int) t4].toArray e4) :: (172, tabObj tb) :: rest2) → (IntsAre cur (NI (List.range' inside.length i))) → (ext.length = i) → (InsAt rest2 ext (List.replicate i [])) → (SgsAre pe (((placesOf (valL w9)).take i).map letters0)) → (Rising nm (inl ++ ext)) → ((∀ x ∈ (D, W.listOf pws.toArray eD) :: rest1, x ∈ rest2)) → ((∀ x ∈ rest2, x ∈ rest1 ∨ (D ≤ x.1 ∧ x.1 ≠ I))) → (m' (Str.ofString "lexer") = some (.ref LX)) → (m' (Str.ofString "primes") = some (.ref pr)) → (m' (Str.ofString "names") = some (.ref nm)) → (m' (Str.ofString "inside") = some (.ref ins)) → (m' (Str.ofString "word") = some (.str (S w9) tw)) → zG) → J i m' nw → zG) → _) => zk (fun i m' nw => ∀ zG : Prop, (∀ (ea' ei' ep' : Nat) (cur ext pe : List Value) (rest2 : List (Addr × Obj)), (nw = (a, W.listOf cur.toArray ea') :: (nm, W.listOf nml.toArray en) :: (ins, W.listOf (inl ++ ext).toArray ei') :: (pb, W.listOf (pvs' ++ pe).toArray ep') :: (dLX, dictOf (lexL w (lnAt page (p + k)) BX pb x0' x1 x2 x3 x4 x5) el4) :: (LX, instObj 83 dLX) :: (pl, W.listOf [Value.int ((p + k : Nat) : Int) t4].toArray e4) :: (172, tabObj tb) :: rest2) → (IntsAre cur (NI (List.range' inside.length i))) → (ext.length = i) → (InsAt rest2 ext (List.replicate i [])) → (SgsAre pe (((placesOf (valL w9)).take i).map letters0)) → (Rising nm (inl ++ ext)) → ((∀ x ∈ (D, W.listOf pws.toArray eD) :: rest1, x ∈ rest2)) → ((∀ x ∈ rest2, x ∈ rest1 ∨ (D ≤ x.1 ∧ x.1 ≠ I))) → (m' (Str.ofString "lexer") = some (.ref LX)) → (m' (Str.ofString "primes") = some (.ref pr)) → (m' (Str.ofString "names") = some (.ref nm)) → (m' (Str.ofString "inside") = some (.ref ins)) → (m' (Str.ofString "word") = some (.str (S w9) tw)) → zG) → zG) (fun i m' nw ea' ei' ep' cur ext pe rest2 zh0 zh1 zh2 zh3 zh4 zh5 zh6 zh7 zh8 zh9 zh10 zh11 zh12 _ zk => zk ea' ei' ep' cur ext pe rest2 zh0 zh1 zh2 zh3 zh4 zh5 zh6 zh7 zh8 zh9 zh10 zh11 zh12) (fun i m' nw zG zk zh => zh zG zk)) ?_; intro J Jmk Jel
    refine forAt_S J K
      (fun m' => stable_list (fun i nw h => by refine Jel _ _ _ _ ?_ h; rintro ea' ei' ep' cur ext pe rest2 rfl - - - - - hs -; intros; exact .inr ⟨_, .tail _ (.tail _ (.tail _ (.tail _ (.tail _ (.tail _ (.tail _ (.tail _ (hs _ (.head _))))))))), rfl, _, rfl⟩)) ?j0 ?_ ?_
    case' j0 => refine Jmk _ _ _ ea ei ep4 ([]) ([]) ([]) ((D, W.listOf pws.toArray eD) :: rest1) ?b1 .nil rfl trivial trivial ?b2 (fun x hx => hx) ?b3 ?b4 ?b5 ?b6 ?b7 ?b8
    case b1 => rfl
    case b2 => rw [List.append_nil]; exact hris
    case b3 =>
      intro x hx
      rcases List.mem_cons.mp hx with rfl | hx
      · exact .inr ⟨Nat.le_refl _, Nat.ne_of_lt hltI⟩
      · exact .inl hx
    case b4 => ((try dsimp only); (repeat (first | exact if_pos rfl | with_reducible assumption | (refine (if_neg ?_).trans ?_; focus decide))); try rfl)
    case b5 => ((try dsimp only); (repeat (first | exact if_pos rfl | with_reducible assumption | (refine (if_neg ?_).trans ?_; focus decide))); try rfl)
    case b6 => ((try dsimp only); (repeat (first | exact if_pos rfl | with_reducible assumption | (refine (if_neg ?_).trans ?_; focus decide))); try rfl)
    case b7 => ((try dsimp only); (repeat (first | exact if_pos rfl | with_reducible assumption | (refine (if_neg ?_).trans ?_; focus decide))); try rfl)
    case b8 => ((try dsimp only); (repeat (first | exact if_pos rfl | with_reducible assumption | (refine (if_neg ?_).trans ?_; focus decide))); try rfl)
    · intro i v m2 nw2 oI h7 tk7 hi hP JJ
      refine Jel _ _ _ _ ?_ JJ
      clear JJ
      rintro ea' ei' ep' cur ext pe rest2 rfl hcur hext hinx hpe hrx hs2 ho2 em1 em2 em3 em4 em5 F7 N7 off7 hst7
      show (let zG : Prop := _; zG)
      intro zG
      obtain ⟨x9, tx9, hx9, rfl⟩ := ints_back hpws (i := i) (v := v) (by simpa using hP)
      obtain ⟨c9, hc9, rfl⟩ := NI_get hx9
      have hc100 := hw4 c9 (List.mem_of_getElem? hc9)
      have hpl9 : pe.length = i := by
        rw [hpe.length, List.length_map, List.length_take]
        have := (List.getElem?_eq_some_iff.mp hc9).1
        wtm_at "lo"
      have hi20 : i < 20 := by
        have := (List.getElem?_eq_some_iff.mp hc9).1
        wtm_at "lo"
      have hpv2 := hpv'.length
      have hcl : cur.length = i := by rw [hcur.length, NI_len, List.length_range']
      have hIa : @LT.lt Nat _ a I := hIup _ (.head _)
      have hIn : @LT.lt Nat _ nm I := hIup _ (.tail _ (.head _))
      have hIi : @LT.lt Nat _ ins I := hIup _ (.tail _ (.tail _ (.head _)))
      have hID : @LT.lt Nat _ D I := hltI
      have hoff2 : ∀ b : Nat, (∀ x ∈ rest1, x.1 ≠ b) → b < D → ∀ x ∈ rest2, x.1 ≠ b := fun b hb hl x hx => by
        rcases ho2 x hx with h | h
        · exact hb x h
        · exact Nat.ne_of_gt (Nat.lt_of_lt_of_le hl h.1)
      have y1 : ∀ x ∈ rest2, x.1 ≠ a := hoff2 a (fun x hx => (hoff1 x hx).1) hDa
      have hr1 : ∀ b : Nat, (∀ x ∈ news, x.1 ≠ b) → b ≤ nm → ∀ x ∈ rest1, x.1 ≠ b := fun b hb hl x hx => by
        rcases (hoff1 x hx).2 with h | h
        · exact hb x h
        · exact Nat.ne_of_gt (Nat.lt_of_le_of_lt hl h.1)
      have y2 : ∀ x ∈ rest2, x.1 ≠ nm := hoff2 nm (hr1 nm (fun x hx => Nat.ne_of_lt (hnn x hx)) (Nat.le_refl _)) (Nat.lt_trans hA1 (Nat.lt_trans hA2 hDn))
      have y3 : ∀ x ∈ rest2, x.1 ≠ ins := hoff2 ins (fun x hx => by
        rcases (hoff1 x hx).2 with h | h
        · exact Nat.ne_of_lt (Nat.lt_trans (hnn x h) (Nat.lt_trans hA1 hA2))
        · exact h.2) hDn
      have y4 : ∀ x ∈ rest2, x.1 ≠ pb := hoff2 pb (hr1 pb o3 (Nat.le_of_lt hA3.2.2.2)) (Nat.lt_trans hA3.2.2.2 (Nat.lt_trans hA1 (Nat.lt_trans hA2 hDn)))
      (try k_unmd); k_unfold
      refine wpAny_pure ?_
      (try k_unmd); (try k_fold)
      k_steps
      refine stop_in ?_
      show wpAny _ _ (call (.ref 229) [.int (c9 : Nat) tx9]) _ _ _
      rename Fr _ _ _ _ => FE
      rename News _ _ _ _ => NE
      refine c_word (h₀ := g') (L := L') (c9 : Int) c9 tx9 B' FE X' NE T' ?r4 ?r5 ?r1 ?r2 (by wtm_at "inc") (by wtm_at "inc") ?_
      case r4 => exact rfl
      case r5 => exact rfl
      case r1 => k_room
      case r2 => k_units
      intro nx h8 tk8 t8 F8 N8
      replace N8 := news_sub N8 fun x hx => List.mem_append_right nx hx
      clear FE NE
      k_steps
      refine stop_in ?_
      rename Fr _ _ _ _ => FE
      rename News _ _ _ _ => NE
      show wpAny _ _ (call (.ref 80) [.ref LX, .str (S (word c9)) t8]) _ _ _
      have NE2 : News g' L' _ ((pb, W.listOf (pvs' ++ pe).toArray ep') :: (I, oI) :: (a, W.listOf cur.toArray ea') :: (nm, W.listOf nml.toArray en) :: (ins, W.listOf (inl ++ ext).toArray ei') :: (dLX, dictOf (lexL w (lnAt page (p + k)) BX pb x0' x1 x2 x3 x4 x5) el4) :: (LX, instObj 83 dLX) :: (pl, W.listOf [Value.int ((p + k : Nat) : Int) t4].toArray e4) :: (172, tabObj tb) :: rest2) := news_sub NE (by wtm_at "msub")
      have hpbo : ∀ x ∈ (I, oI) :: (a, W.listOf cur.toArray ea') :: (nm, W.listOf nml.toArray en) :: (ins, W.listOf (inl ++ ext).toArray ei') :: (dLX, dictOf (lexL w (lnAt page (p + k)) BX pb x0' x1 x2 x3 x4 x5) el4) :: (LX, instObj 83 dLX) :: (pl, W.listOf [Value.int ((p + k : Nat) : Int) t4].toArray e4) :: (172, tabObj tb) :: rest2, x.1 ≠ pb :=
        fa_cons (Nat.ne_of_gt (Nat.lt_trans hA3.2.2.2 hIn)) (fa_cons (Nat.ne_of_gt (Nat.lt_trans hA3.2.2.2 haa)) (fa_cons (Nat.ne_of_gt hA3.2.2.2) (fa_cons (Nat.ne_of_gt (Nat.lt_trans hA3.2.2.2 (Nat.lt_trans hA1 hA2))) (fa_cons (Ne.symm o5.1) (fa_cons (o3 _ hLX) (fa_cons (Ne.symm o5.2.1) (fa_cons (Nat.ne_of_lt o5.2.2.2.2) y4)))))))
      refine c_push (h₀ := g') (L := L') LX dLX BX pb (lnAt page (p + k)) ep' el4 x0' x1 x2 x3 x4 x5 (.str (S (word c9)) t8) (pvs' ++ pe) B' FE X' NE2 hpbo T' ?r4 ?r5 ?r1 ?r2 (.tail _ (.tail _ (.tail _ (.tail _ (.tail _ (.head _)))))) (.tail _ (.tail _ (.tail _ (.tail _ (.head _))))) ?r3 ?_
      case r4 => exact rfl
      case r5 => exact rfl
      case r1 => k_room
      case r2 => k_units
      case r3 => rw [List.length_append]; wtm_at "lo"
      intro h9 tk9 ep9 F9 N9
      replace N9 : News g' L' h9 ((I, oI) :: (a, W.listOf cur.toArray ea') :: (nm, W.listOf nml.toArray en) :: (ins, W.listOf (inl ++ ext).toArray ei') :: (pb, W.listOf (pvs' ++ (pe ++ [Value.str (S (word c9)) t8])).toArray ep9) :: (dLX, dictOf (lexL w (lnAt page (p + k)) BX pb x0' x1 x2 x3 x4 x5) el4) :: (LX, instObj 83 dLX) :: (pl, W.listOf [Value.int ((p + k : Nat) : Int) t4].toArray e4) :: (172, tabObj tb) :: rest2) := news_sub N9 (by rw [List.append_assoc]; wtm_at "msub")
      clear FE NE NE2
      k_steps
      refine stop_in ?_
      rename News _ _ _ _ => NE
      refine item_lst (k := nml.length) NE (.tail _ (.tail _ (.tail _ (.head _)))) rfl (by rw [List.getElem?_append_left (by wtm_at "inc")]; exact hia) (by wtm_at "inc") ?_
      k_steps
      rename Fr _ _ _ _ => FE
      rename News _ _ _ _ => NE
      rename (_ ∧ _) => lb
      rename_i b _ _ _ _
      have hIb : @LT.lt Nat _ I b := lb.1
      have hrb : ∀ x ∈ rest2, @LT.lt Nat _ x.1 b := allLt_mem lb.2.2.2.2.2.2.2.2.2
      rw [List.append_assoc inl ext] at NE
      have hcin : (inl ++ ext).length = inside.length + i := by rw [List.length_append, hil, hext]
      refine forEnd_mk FE (news_fe NE) ?z0 ?zJ
      case' zJ => refine Jmk _ _ _ _ _ _ _ _ _ _ rfl ?z1 ?z2 ?z3 ?z4 ?z5 ?z6 ?z7 (by ((try dsimp only); (repeat (first | exact if_pos rfl | with_reducible assumption | (refine (if_neg ?_).trans ?_; focus decide))); try rfl)) (by ((try dsimp only); (repeat (first | exact if_pos rfl | with_reducible assumption | (refine (if_neg ?_).trans ?_; focus decide))); try rfl)) (by ((try dsimp only); (repeat (first | exact if_pos rfl | with_reducible assumption | (refine (if_neg ?_).trans ?_; focus decide))); try rfl)) (by ((try dsimp only); (repeat (first | exact if_pos rfl | with_reducible assumption | (refine (if_neg ?_).trans ?_; focus decide))); try rfl)) (by ((try dsimp only); (repeat (first | exact if_pos rfl | with_reducible assumption | (refine (if_neg ?_).trans ?_; focus decide))); try rfl))
      case z0 => exact fa_cons (Nat.ne_of_lt hIa) (fa_cons (Nat.ne_of_lt hIn) (fa_cons (Nat.ne_of_lt hIi) (fa_cons (Nat.ne_of_lt (Nat.lt_trans hA3.2.2.2 hIn)) (fa_cons (Nat.ne_of_lt (Nat.lt_trans hA3.2.1 hIn)) (fa_cons (Nat.ne_of_lt (Nat.lt_trans hLXn hIn)) (fa_cons (Nat.ne_of_lt (Nat.lt_trans hA3.2.2.1 hIn)) (fa_cons (Nat.ne_of_lt (Nat.lt_trans hA3.1 hIn)) (fa_cons (Nat.ne_of_gt hIb) fun x h => (ho2 x h).elim (fun h => Nat.ne_of_lt (Nat.lt_trans (hDr x h) hID)) fun h => h.2))))))))
      case z1 =>
        rw [range'_snoc, NI_app]
        refine ints_app hcur ?_
        rw [hcin]
        exact .cons _ _ .nil
      case z2 => rw [List.length_append, hext]; rfl
      case z3 =>
        rw [List.replicate_succ']
        exact (hinx.mono fun x hx => .tail _ hx).app ⟨⟨b, 0, [], rfl, .head _, .nil⟩, trivial⟩
      case z4 =>
        rw [List.take_add_one, hc9, List.map_append]
        exact hpe.app ⟨⟨_, rfl⟩, trivial⟩
      case z5 =>
        rw [← List.append_assoc]
        refine hrx.snoc (Nat.lt_trans hIn hIb) fun c hc => ?_
        rcases List.mem_append.mp hc with hc | hc
        · have := hinl.lt (b := D) (fun x hx => ?_) c hc
          · exact Nat.lt_trans this (Nat.lt_trans hID hIb)
          · by_cases hxa : x.1 = a
            · rw [hxa]; exact hDa
            · exact hDr x (by rw [hrest1]; exact List.mem_filter.mpr ⟨hx, by simpa using hxa⟩)
        · exact hinx.lt hrb c hc
      case z6 => exact fun x hx => .tail _ (hs2 x hx)
      case z7 =>
        intro x hx
        rcases List.mem_cons.mp hx with rfl | hx
        · exact .inr ⟨Nat.le_of_lt (Nat.lt_trans hID hIb), Nat.ne_of_gt hIb⟩
        · exact ho2 x hx
    · intro h7 tk7 m2 nw2 F7 N7 JJ
      refine Jel _ _ _ _ ?_ JJ
      clear JJ
      rintro ea' ei' ep' cur ext pe rest2 rfl hcur hext hinx hpe hrx hs2 ho2 em1 em2 em3 em4 em5
      have hpn : pws.toArray.size = (placesOf (valL w9)).length := by
        rw [List.size_toArray, hpws.length, List.length_map]
      rw [hpn] at hcur hext hinx hpe
      rw [List.take_length] at hpe
      have hoff2 : ∀ b : Nat, (∀ x ∈ rest1, x.1 ≠ b) → b < D → ∀ x ∈ rest2, x.1 ≠ b := fun b hb hl x hx => by
        rcases ho2 x hx with h | h
        · exact hb x h
        · exact Nat.ne_of_gt (Nat.lt_of_lt_of_le hl h.1)
      have hr1 : ∀ b : Nat, (∀ x ∈ news, x.1 ≠ b) → b ≤ nm → ∀ x ∈ rest1, x.1 ≠ b := fun b hb hl x hx => by
        rcases (hoff1 x hx).2 with h | h
        · exact hb x h
        · exact Nat.ne_of_gt (Nat.lt_of_le_of_lt hl h.1)
      have y2 : ∀ x ∈ rest2, x.1 ≠ nm := hoff2 nm (hr1 nm (fun x hx => Nat.ne_of_lt (hnn x hx)) (Nat.le_refl _)) (Nat.lt_trans hA1 (Nat.lt_trans hA2 hDn))
      k_steps
      rename Fr _ _ _ _ => FE
      rename News _ _ _ _ => NE
      refine whlEnd_mk (n' := f') FE (news_we NE) (Nat.lt_succ_self _) ?zW
      case' zW => refine J0mk _ _ _ _ _ _ _ (inl ++ ext) (pvs' ++ pe) _ _ _ _ _ (p + k) _ _ ((a, W.listOf cur.toArray ea') :: rest2) hg2 rfl (hnml.app ⟨⟨_, rfl⟩, trivial⟩) ?w1 hrx (.inr ⟨?w2, ?w3, rfl⟩) ?w4 ?w5 (by ((try dsimp only); (repeat (first | exact if_pos rfl | with_reducible assumption | (refine (if_neg ?_).trans ?_; focus decide))); try rfl)) (by ((try dsimp only); (repeat (first | exact if_pos rfl | with_reducible assumption | (refine (if_neg ?_).trans ?_; focus decide))); try rfl)) (by ((try dsimp only); (repeat (first | exact if_pos rfl | with_reducible assumption | (refine (if_neg ?_).trans ?_; focus decide))); try rfl)) (by ((try dsimp only); (repeat (first | exact if_pos rfl | with_reducible assumption | (refine (if_neg ?_).trans ?_; focus decide))); try rfl))
      case w1 =>
        refine InsAt.app (InsAt.set (a := a) (e' := ea') (ws' := cur) (news := rest) (fun x hx hxa => ?_) (.head _) hcur hris hinl (by rw [← hnl]; exact hia)) (hinx.mono fun x hx => .tail _ hx)
        exact .tail _ (hs2 x (.tail _ (by rw [hrest1]; exact List.mem_filter.mpr ⟨hx, by simpa using hxa⟩)))
      case w2 => simp
      case w3 => exact hpv'.app hpe
      case w4 => exact fun x hx => .tail _ (hs2 x (.tail _ (hsub1 x hx)))
      case w5 =>
        intro x hx
        rcases List.mem_cons.mp hx with rfl | hx
        · exact .inr ⟨haa, hai⟩
        · rcases ho2 x hx with h | h
          · exact (hoff1 x h).2
          · exact .inr ⟨Nat.lt_of_lt_of_le (Nat.lt_trans (Nat.lt_trans hA1 hA2) hDn) h.1, Nat.ne_of_gt (Nat.lt_of_lt_of_le hDn h.1)⟩
  · rename (¬ ((_ : Int) < _)) => hlt
    have hlt' : ¬ names.length < inside.length := fun h => hlt (by show ((nml.length : Nat) : Int) < ((inl.length : Nat) : Int); wtm_at "lo")
    obtain ⟨hpush, hres⟩ := grow_stop hgr hlt'
    subst hpush
    injection hres with hn1 hn2
    subst hn1 hn2
    have hpvq : pvs = [] ∧ q = p + k := by
      rcases hph with ⟨-, h2, -⟩ | ⟨-, h2, h3⟩
      · cases h2
      · exact ⟨List.eq_nil_of_length_eq_zero (by rw [h2.length]; rfl), h3⟩
    obtain ⟨hpv0, hq0⟩ := hpvq
    subst hpv0 hq0
    refine stop_in ?_
    rename Fr _ _ _ _ => FA
    rename News _ _ _ _ => NA
    rename_i pc _ lp _ _ _ wr _ _ lw _
    have hwp : @LT.lt Nat _ pc wr := lw.1
    have hpcA : @LT.lt Nat _ nm pc ∧ @LT.lt Nat _ ins pc := ⟨lp.1, lp.2.1⟩
    have hpcR : ∀ x ∈ rest, @LT.lt Nat _ x.1 pc := allLt_mem lp.2.2.2.2.2.2.2
    refine c_tgt (h₀ := g') (L := L') wr (bdApp pc) B' FA X' NA T' ?r4 ?r5 ?r1 ?r2 (.head _) ?_
    case r4 => exact rfl
    case r5 => exact rfl
    case r1 => k_room
    case r2 => k_units
    intro Ta dT da tp aT ds ns pm ps rs rd tz tu tx en9 e1 e2 e3 e4 e6 v1 v2 h2 tk2 F2 N2 hdT hTd hda htp haT hds hns hps
    clear FA NA
    have hwdT : wr < dT := hdT _ (.head _)
    have hrd : ∀ x ∈ rest, @LT.lt Nat _ x.1 dT := fun x hx => Nat.lt_trans (hpcR x hx) (Nat.lt_trans hwp hwdT)
    k_steps
    refine stop_in ?_
    rename Fr _ _ _ _ => FB
    rename News _ _ _ _ => NB
    obtain ⟨R, hRr⟩ : ∃ r : List (Addr × Obj), r = (Ta, instObj 199 dT) :: (da, W.listOf ([] : List Value).toArray e6) :: (aT, W.listOf [Value.ref tp].toArray e2) :: (tp, tup [.str (Str.ofString "http://www.w3.org/XML/1998/namespace") tu, .str (Str.ofString "xml") tx]) :: (wr, bdApp pc) :: (nm, W.listOf nml.toArray en) :: (ins, W.listOf inl.toArray ei) :: (pb, W.listOf ([] : List Value).toArray ep) :: (dLX, dictOf (lexL w (lnAt page (p + k)) BX pb x0' x1 x2 x3 x4 x5) el') :: (LX, instObj 83 dLX) :: (pl, W.listOf [Value.int ((p + k : Nat) : Int) t'].toArray e') :: rest := ⟨_, rfl⟩
    have hin : ∀ {x}, x ∈ rest → x ∈ R := fun h => by rw [hRr]; exact .tail _ (.tail _ (.tail _ (.tail _ (.tail _ (.tail _ (.tail _ (.tail _ (.tail _ (.tail _ (.tail _ h))))))))))
    have NB2 : News g' L' _ ((172, tabObj tb) :: (dT, dictOf (tgtL w wr da ds ns pm ps rs rd tz) en9) :: (ds, W.listOf (Value.ref aT :: []).toArray e1) :: (ns, W.listOf [v1, v2].toArray e3) :: (ps, W.listOf ([] ++ [Value.bool false]).toArray e4) :: (pc, W.listOf ([] : List Value).toArray 0) :: R) := news_sub NB (by rw [hRr, List.nil_append]; wtm_at "msub")
    have big : ∀ x, @LT.lt Nat _ pc x → @LT.lt Nat _ 172 x := fun x h => Nat.lt_trans hA3.1 (Nat.lt_trans hpcA.1 h)
    have hI2 : Inc [172, nm, a0, ins, pc, wr, dT, Ta, da, tp, aT, ds, ns, ps] := ⟨hA3.1, hA1, hA2, hpcA.2, hwp, hwdT, hTd, hda, htp, haT, hds, hns, hps, trivial⟩
    have hTa : @LT.lt Nat _ pc Ta ∧ @LT.lt Nat _ pc da ∧ @LT.lt Nat _ pc aT ∧ @LT.lt Nat _ pc tp := ⟨(hI2.lt (i := 4) (j := 7) (by decide)), (hI2.lt (i := 4) (j := 8) (by decide)), (hI2.lt (i := 4) (j := 10) (by decide)), (hI2.lt (i := 4) (j := 9) (by decide))⟩
    have hoR : ∀ a : Nat, (a = 172 ∨ (pc ≤ a ∧ a ≠ wr ∧ a ≠ Ta ∧ a ≠ da ∧ a ≠ aT ∧ a ≠ tp)) → ∀ x ∈ R, x.1 ≠ a := fun a ha => by
      have hb : ∀ b : Nat, (a = 172 → b ≠ 172) → @LT.lt Nat _ b pc → b ≠ a := fun b h1 h2 => ha.elim (fun h => h ▸ h1 h) fun h => Nat.ne_of_lt (Nat.lt_of_lt_of_le h2 h.1)
      have hc : ∀ b : Nat, @LT.lt Nat _ pc b → ((pc ≤ a ∧ a ≠ wr ∧ a ≠ Ta ∧ a ≠ da ∧ a ≠ aT ∧ a ≠ tp) → a ≠ b) → b ≠ a := fun b h1 h2 => ha.elim (fun h => h ▸ Nat.ne_of_gt (big b h1)) fun h => Ne.symm (h2 h)
      rw [hRr]
      exact fa_cons (hc Ta hTa.1 fun h => h.2.2.1) (fa_cons (hc da hTa.2.1 fun h => h.2.2.2.1) (fa_cons (hc aT hTa.2.2.1 fun h => h.2.2.2.2.1) (fa_cons (hc tp hTa.2.2.2 fun h => h.2.2.2.2.2) (fa_cons (hc wr hwp fun h => h.2.1)
        (fa_cons (hb nm (fun _ => Nat.ne_of_gt hA3.1) hpcA.1) (fa_cons (hb ins (fun _ => Nat.ne_of_gt (Nat.lt_trans hA3.1 (Nat.lt_trans hA1 hA2))) hpcA.2) (fa_cons (hb pb (fun _ => Nat.ne_of_gt o5.2.2.2.2) (Nat.lt_trans hA3.2.2.2 hpcA.1)) (fa_cons (hb dLX (fun _ => Nat.ne_of_gt o5.2.2.1) (Nat.lt_trans hA3.2.1 hpcA.1))
        (fa_cons (hb LX (fun _ => o4 _ hLX) (Nat.lt_trans hLXn hpcA.1)) (fa_cons (hb pl (fun _ => Nat.ne_of_gt o5.2.2.2.1) (Nat.lt_trans hA3.2.2.1 hpcA.1)) fun x h => hb x.1 (fun _ => (hoffr x h).elim (o4 x) fun h => Nat.ne_of_gt (Nat.lt_trans hA3.1 h.1)) (hpcR x h)))))))))))
    clear NB
    refine c_told 10 (h₀ := g') (L := L') Ta dT aT tp da wr ds ns pm ps pc nm ins rs rd tz en9 [] e1 e2 e3 e4 0 e6 en ei _ tu tx [v1, v2] [] [] nml inl nf inf xs 0 tb B' FB X' NB2 T' ?r4 ?r5 ?r1 ?r2 ?m1 ?m2 ?m3 ?m4 ?m5 (fun v hv => by cases hv) (by simp) (by simp) (by simp) (by simp; wtm_at "lo") ((htb.mono hsub).mono fun x hx => hin hx) (hoR 172 (.inl rfl)) (hoR dT (.inr ⟨Nat.le_of_lt (hI2.lt (i := 4) (j := 6) (by decide)), (hI2.ne' (i := 5) (j := 6) (by decide)), (hI2.ne (i := 6) (j := 7) (by decide)), (hI2.ne (i := 6) (j := 8) (by decide)), (hI2.ne (i := 6) (j := 10) (by decide)), (hI2.ne (i := 6) (j := 9) (by decide))⟩)) (hoR ds (.inr ⟨Nat.le_of_lt (hI2.lt (i := 4) (j := 11) (by decide)), (hI2.ne' (i := 5) (j := 11) (by decide)), (hI2.ne' (i := 7) (j := 11) (by decide)), (hI2.ne' (i := 8) (j := 11) (by decide)), (hI2.ne' (i := 10) (j := 11) (by decide)), (hI2.ne' (i := 9) (j := 11) (by decide))⟩)) (hoR ns (.inr ⟨Nat.le_of_lt (hI2.lt (i := 4) (j := 12) (by decide)), (hI2.ne' (i := 5) (j := 12) (by decide)), (hI2.ne' (i := 7) (j := 12) (by decide)), (hI2.ne' (i := 8) (j := 12) (by decide)), (hI2.ne' (i := 10) (j := 12) (by decide)), (hI2.ne' (i := 9) (j := 12) (by decide))⟩)) (hoR ps (.inr ⟨Nat.le_of_lt (hI2.lt (i := 4) (j := 13) (by decide)), (hI2.ne' (i := 5) (j := 13) (by decide)), (hI2.ne' (i := 7) (j := 13) (by decide)), (hI2.ne' (i := 8) (j := 13) (by decide)), (hI2.ne' (i := 10) (j := 13) (by decide)), (hI2.ne' (i := 9) (j := 13) (by decide))⟩)) (hoR pc (.inr ⟨Nat.le_refl _, (hI2.ne (i := 4) (j := 5) (by decide)), (hI2.ne (i := 4) (j := 7) (by decide)), (hI2.ne (i := 4) (j := 8) (by decide)), (hI2.ne (i := 4) (j := 10) (by decide)), (hI2.ne (i := 4) (j := 9) (by decide))⟩)) ⟨(hI2.lt (i := 0) (j := 4) (by decide)), (hI2.lt (i := 4) (j := 5) (by decide)), (hI2.lt (i := 5) (j := 6) (by decide)), (hI2.lt (i := 6) (j := 7) (by decide)), (hI2.lt (i := 7) (j := 8) (by decide)), (hI2.lt (i := 8) (j := 11) (by decide)), (hI2.lt (i := 11) (j := 12) (by decide)), (hI2.lt (i := 12) (j := 13) (by decide))⟩ ?m6 ?m7 hnml (hinl.mono fun x hx => hin hx) (fun u hu => ?m8) (by wtm_at "inc") (by wtm_at "inc") hto ?_
    case r4 => exact rfl
    case r5 => exact rfl
    case r1 => k_room
    case r2 => k_units
    case m1 => rw [hRr]; wtm_at "mm"
    case m2 => rw [hRr]; wtm_at "mm"
    case m3 => rw [hRr]; wtm_at "mm"
    case m4 => rw [hRr]; wtm_at "mm"
    case m5 => rw [hRr]; wtm_at "mm"
    case m6 => rw [hRr]; wtm_at "mm"
    case m7 => rw [hRr]; wtm_at "mm"
    case m8 =>
      have h1 := okW_l (hok u hu)
      refine ⟨h1.1, by wtm_at "lo", fun c hc => ?_⟩
      have := okW_c (hok u hu) c hc
      wtm_at "lo"
    intro h3 tk3 gg3 rs2 rd2 w1 w3 w4 w5 en3 tb3 vs news3 hgg3 F3 hs3 hn3 htb3 hvs N3
    clear FB NB2
    k_steps
    rename News _ _ _ _ => NJ
    have hjx : Txt.join (Str.ofString "") (xs.map S) = S xs.flatten := by
      unfold Txt.join
      rw [PySem.StrLaws.glued_eq_join, show Str.ofString "" = Str.empty from rfl, join_S]
    refine join_list (D := pc) (items := vs.toArray) (ys := xs.map S) ⟨_, (NJ _ (.tail _ (.tail _ (.tail _ (.tail _ (.tail _ (.head _))))))).1, rfl, _, rfl⟩ (by simpa using strs_lib hvs) ?_ (fun tj kj => ?_)
    · rw [sumS]
      show _ + _ * 0 ≤ 16777216
      wtm_at "lo"
    rw [hjx]
    k_steps
    rename News h₀ _ _ _ => NZ
    rename Fr h₀ _ _ _ => FZ
    have hx1 := NZ _ (.tail _ (.tail _ (.tail _ (.tail _ (.tail _ (.tail _ (hs3 (dLX, dictOf (lexL w (lnAt page (p + k)) BX pb x0' x1 x2 x3 x4 x5) el') (by rw [hRr]; wtm_at "mm"))))))))
    have hx2 := NZ _ (.tail _ (.tail _ (.tail _ (.tail _ (.tail _ (.tail _ (hs3 (pl, W.listOf [Value.int ((p + k : Nat) : Int) t'].toArray e') (by rw [hRr]; wtm_at "mm"))))))))
    have hx3 := NZ _ (.tail _ (.tail _ (.tail _ (.tail _ (.tail _ (.tail _ (hs3 (pb, W.listOf ([] : List Value).toArray ep) (by rw [hRr]; wtm_at "mm"))))))))
    have Nn3 := news_sub NZ (news' := news3) fun x hx => .tail _ (.tail _ (.tail _ (.tail _ (.tail _ (.tail _ hx)))))
    refine ret _ _ _ t' e' _ x0' el' ep tb3 (news3.filter fun q => q.1 != dLX && q.1 != pl && q.1 != pb) hgg3 FZ (fun x hx => ?_) (fun x hx => ?_) (htb3.filt3 Nn3 hx1.1 hx2.1 hx3.1 (by intro _ h; cases h) (by intro _ h; cases h) (by intro _ h; cases h)) (news_sub NZ fun x hx => ?_)
    · refine List.mem_filter.mpr ⟨hs3 _ (hin (hsub x hx)), ?_⟩
      have h1 := o1 x hx
      have h2 := o0 x hx
      have h3 := o3 x hx
      exact and_true3 h1 h2 h3
    · obtain ⟨h1, h2⟩ := List.mem_filter.mp hx
      simp only [Bool.and_eq_true, bne_iff_ne, ne_eq] at h2
      rcases hn3 x h1 with h | h
      · have key : ∀ x ∈ R, (x ∈ news ∨ 172 < x.1) ∨ x.1 = pb ∨ x.1 = dLX ∨ x.1 = pl := by
          rw [hRr]
          exact fa_cons (.inl (.inr (big _ hTa.1))) (fa_cons (.inl (.inr (big _ hTa.2.1))) (fa_cons (.inl (.inr (big _ hTa.2.2.1))) (fa_cons (.inl (.inr (big _ hTa.2.2.2))) (fa_cons (.inl (.inr (big _ hwp))) (fa_cons (.inl (.inr hA3.1)) (fa_cons (.inl (.inr (Nat.lt_trans hA3.1 (Nat.lt_trans hA1 hA2))))
            (fa_cons (.inr (.inl rfl)) (fa_cons (.inr (.inr (.inl rfl))) (fa_cons (.inl (.inl hLX)) (fa_cons (.inr (.inr (.inr rfl))) fun x h => .inl ((hoffr x h).imp id fun h => Nat.lt_trans hA3.1 h.1)))))))))))
        rcases key x h with (h | h) | h | h | h
        · exact .inl h
        · exact .inr ⟨h, h2.1.2, h2.1.1, h2.2⟩
        · exact absurd h h2.2
        · exact absurd h h2.1.1
        · exact absurd h h2.1.2
      · have h5 := h.1
        exact .inr ⟨Nat.lt_trans (hI2.lt (i := 0) (j := 13) (by decide)) h5, h2.1.2, h2.1.1, h2.2⟩
    · exact sub_cons mem_0 (sub_cons (lift_6 (hs3 _ (by rw [hRr]; wtm_at "mm"))) (sub_cons (lift_6 (hs3 _ (by rw [hRr]; wtm_at "mm"))) (sub_cons (lift_6 (hs3 _ (by rw [hRr]; wtm_at "mm"))) fun x h => lift_6 (List.mem_filter.mp h).1))) x hx
end Mine.Internal
end PartCgrown
theorem Mine.Internal.fresh25 : True ∧ True := by
  w_top off
  first | (walk1; fail) | exact ⟨trivial, trivial⟩
section PartClread
open PySem PySem.W PyProof.Rows PyProof.Rows.LCg
namespace Mine.Internal
theorem news_lp {h₀ h : Heap} {L : Addr} {a n I b : Addr × Obj} {r : List (Addr × Obj)} (N : News h₀ L h (a :: n :: I :: b :: r)) : News h₀ L h (I :: b :: a :: n :: r) := news_sub N (by wtm_at "msub")
theorem news_lq {h₀ h : Heap} {L : Addr} {d b a n a2 n2 I : Addr × Obj} {r : List (Addr × Obj)} (N : News h₀ L h (d :: b :: a :: n :: a2 :: n2 :: I :: r)) : News h₀ L h (I :: b :: a :: n :: d :: a2 :: n2 :: r) := news_sub N (by wtm_at "msub")
set_option maxHeartbeats 2500000 in
theorem c_lread {w : World} {A₀ : Around} {base h₀ : Heap} {outer : List Env} {dp un : Nat} {gd : Option (List Code)} {env : Env} {L : Addr} {m : Str → Option Value} {news : List (Addr × Obj)} {loose : List Str} {mean : ExcName → Option Value} {mg mb : Str → Option Value} {s0h : Heap} {s0g : Array GenState} {s0d : Drawn} {s0t : Nat} {s0o : OsState} {Q E : Value → Shared → Prop} (page : List Nat) (tt : Tok) (pr : Nat) (pv : List Value) (v0 : Nat)
  (B : Below A₀ base outer h₀) (F : Fr h₀ L s0h m) (X : (hd.heap_39 w.params).In h₀)
  (N : News h₀ L s0h news)
  (T : Top topProg loose mean mg mb h₀) (hf : env.frame = some L) (hke : env.scope.kind = .function) (hdp : dp + 100 < recursionLimit) (hun : un + 800 < cLine)
  (hpr : (pr, tup pv) ∈ news) (hpv : IntsAre pv primesI) (hpl : page.length ≤ 5000) (hg : readO page = some [([], [v0])])
  (ret : ∀ (bg a n : Nat) (t1 t2 : Tok) h' tk' e1 e2 e3, Fr h₀ L h' m → News h₀ L h' ((bg, W.listOf [Value.ref a].toArray e1) :: (a, W.listOf [.str (S []) t1, .ref n].toArray e2) :: (n, W.listOf [.int (v0 : Nat) t2].toArray e3) :: news) → Q (.ref bg) (Shared.mk h' s0g s0d tk' s0o)) :
  wpAny (model PySem.Challenge.rw_kl0306_01.row.prog w) (aA dp un gd env outer) (call (.ref 291) [.str (S page) tt, .ref pr]) Q E (Shared.mk s0h s0g s0d s0t s0o) := by
  have hStop0 : StopAt "call ref" := trivial
  have hStop1 : StopAt "subscriptTail" := trivial
  have hStop2 : StopAt "call builtin:list.pop" := trivial
  have hStop3 : StopAt "binaryOp Add str str" := trivial
  have hStop4 : StopAt "exec For" := trivial
  have hStop5 : StopAt "exec For Name Name cons nil" := trivial
  have hStop6 : StopAt "exec For Name Subscript cons nil" := trivial
  have hStop7 : StopAt "call builtin:str.split" := trivial
  have hStop8 : StopAt "call builtin:sorted" := trivial
  revert X; k_fill; intro X
  refine wpAny_call ?_
  k_dflt (refine' code_def ?k1 ?k2 ?k3 ?k4 ?k5 ?kA ?kF ?kK ?k6 ?k7 ?k8 ?k9 ?kB ?_ ?c2 ?c3 ?c4 ?c5; (case kA => exact rfl); (case kF => assumption); (case kK => assumption); (case k1 => k_asm); (case k2 => k_asm); (case k3 => k_asm); (case k4 => k_asm); (case k5 => k_asm); (case k6 => k_is); (case k7 => k_is); (case k8 => first | wtm_at "rm" | (simp only [recursionLimit] at *; wtm_at "lo")); (case k9 => first | exact BindsTo.of_eq rfl | exact binds_K (by k_in) rfl (by k_is) rfl rfl rfl | (refine' kp_binds ?kx ?ke; (case kx => k_in); (case ke => exact fun _ => rfl))); (case c5 => decide); (case kB => exact locs rfl); (case c2 => exact rfl); (case c3 => exact rfl); (case c4 => exact rfl); k_whole; intro g' L' h' FG' F' N' B' X' T'; (try dsimp only); (try k_unmd); (try k_fold); (show (let zA := _; let ze := _; wpAny _ zA (execs _ ze) _ _ _)); intro zA ze; (try (refine gen_tok ?_; intro t1')); (show (let zG : Prop := _; zG)); intro zG; have F1' := F'; clear F'; obtain ⟨m1', F', em_page, em_primes⟩ : ∃ m1 : Str → Option Value, Fr g' L' h' m1 ∧ m1 (Str.ofString "page") = some (.str (S page) tt) ∧ m1 (Str.ofString "primes") = some (.ref pr) := ⟨_, F1', by rfl, by rfl⟩; clear F1'; (try k_unmd); k_unfold; (try k_unmd))
  k_steps
  refine stop_in ?_
  rename Fr _ _ _ _ => FA
  rename News _ _ _ _ => NA
  rw [sq_lt]
  refine KSpl.split1 FA NA (by decide) ?_ (by rw [sizeLine_eq]; simp [S, Str.length]; wtm_at "lo")
  intro D l h2 tk2 hl hst F2 N2 hD
  rw [txt_split] at hl
  rw [hl] at hst
  replace hst := strs_mine hst
  obtain ⟨vs, hvs⟩ : ∃ vs, vs = strValues l := ⟨_, rfl⟩
  rw [← hvs] at hst N2
  clear FA NA hvs hl
  show (let zG : Prop := _; zG)
  intro zG
  obtain ⟨p0, ps, hps, hrd⟩ : ∃ p0 ps, splitL 60 page = p0 :: ps ∧ readL [(p0, [])] ps = some [([], [v0])] := by
    unfold readO at hg
    split at hg
    · cases hg
    · rename_i p r e
      exact ⟨p, r, e, hg⟩
  rw [hps] at hst
  obtain ⟨vx, vps, hvx, t0, hv0, hvps⟩ : ∃ vx vps, vs = vx :: vps ∧ ∃ t0, vx = .str (S p0) t0 ∧ SgsAre vps ps := by
    cases vs with
    | nil => exact hst.elim
    | cons v vps => exact ⟨v, vps, rfl, hst.1.elim fun t0 h => ⟨t0, h, hst.2⟩⟩
  subst hvx hv0
  (try k_unmd); k_unfold
  k_steps
  refine stop_in ?_
  rename News _ _ _ _ => NA
  refine item_lst (k := 0) NA (.head _) rfl rfl (by wtm_at "lo") ?_
  k_steps
  refine stop_in ?_
  refine my_For (GB := fun g => s0g = g) (h₀ := g') ?_
  k_steps
  refine stop_in ?_
  rename Fr _ _ _ _ => FS
  rename News _ _ _ _ => NS
  rename_i n0 _ l1 a0 _ l2 bg _ l3 _ _
  have hvl := hvps.length
  have hsl := splitL_len 60 page
  rw [hps, List.length_cons] at hsl
  refine' kms_slice_lit (zs := vps) FS NS ?sl ?sp ?sq ?se ?_ ?ss ?z9st ?sz
  case sl => exact News.isList NS (.tail _ (.tail _ (.tail _ (.head _))))
  case sp => kmk_part
  case sq => kmk_part
  case se => simp [kms_pick, kms_lo, kms_hi]
  case ss => with_unfolding_all rfl
  case z9st => kmk_pure
  case sz => rw [sizeLine_eq]; simp only [List.size_toArray, List.length_cons]; wtm_at "lo"
  intro D2 h3 F3 N3 hD2
  clear FS NS
  have hDn : @LT.lt Nat _ D n0 := l1.1
  have hna : @LT.lt Nat _ n0 a0 := l2.1
  have hab : @LT.lt Nat _ a0 bg := l3.1
  have hbD2 : @LT.lt Nat _ bg D2 := hD2 _ (.head _)
  have hnD : ∀ x ∈ news, @LT.lt Nat _ x.1 D := hD
  obtain ⟨base, hbase⟩ : ∃ b : List (Addr × Obj), b = (D2, W.listOf vps.toArray 0) :: news := ⟨_, rfl⟩
  have hbm : (D2, W.listOf vps.toArray 0) ∈ base := by rw [hbase]; exact .head _
  have hbs : ∀ x ∈ news, x ∈ base := fun x hx => by rw [hbase]; exact .tail _ hx
  have N4 : News g' L' h3 ((bg, W.listOf [Value.ref a0].toArray 0) :: (a0, W.listOf [Value.str (S p0) t0, Value.ref n0].toArray 0) :: (n0, W.listOf ([] : List Value).toArray 0) :: base) := news_sub N3 (by rw [hbase]; wtm_at "msub")
  clear N3
  refine iter_list rfl ⟨_, (N4 _ (.tail _ (.tail _ (.tail _ hbm)))).1, rfl, _, rfl⟩ F3 N4 ?_
  intro I h4 hltI K
  have hIup := K.up
  have hIb : @LT.lt Nat _ bg I := hIup _ (.head _)
  have hbaseI : ∀ x ∈ base, @LT.lt Nat _ x.1 I := fun x hx => hIup _ (.tail _ (.tail _ (.tail _ hx)))
  refine (fun (zk : ∀ (J : Nat → ((Str → Option Value)) → List (Addr × Obj) → Prop), (∀ (i : Nat) (m' : (Str → Option Value)) (nw : List (Addr × Obj)) (bvs : List Value) (eb hi : Nat) (st : List (List Nat × List Nat)) (rest : List (Addr × Obj)), (nw = (bg, W.listOf bvs.toArray eb) :: rest) → (StackAt rest D bvs st hi) → (st ≠ []) → (readL st (ps.drop i) = some [([], [v0])]) → ((∀ x ∈ base, x ∈ rest)) → ((∀ x ∈ rest, x.1 ≠ bg ∧ x.1 ≠ I)) → (m' (Str.ofString "begun") = some (.ref bg)) → (m' (Str.ofString "primes") = some (.ref pr)) → J i m' nw) → (∀ (i : Nat) (m' : (Str → Option Value)) (nw : List (Addr × Obj)) (zG : Prop), (∀ (bvs : List Value) (eb hi : Nat) (st : List (List Nat × List Nat)) (rest : List (Addr × Obj)), (nw = (bg, W.listOf bvs.toArray eb) :: rest) → (StackAt rest D bvs st hi) → (st ≠ []) → (readL st (ps.drop i) = some [([], [v0])]) → ((∀ x ∈ base, x ∈ rest)) → ((∀ x ∈ rest, x.1 ≠ bg ∧ x.1 ≠ I)) → (m' (Str.ofString "begun") = some (.ref bg)) → (m' (Str.ofString "primes") = some (.ref pr)) → zG) → J i m' nw → zG) → _) => zk (fun i m' nw => ∀ zG : Prop, (∀ (bvs : List Value) (eb hi : Nat) (st : List (List Nat × List Nat)) (rest : List (Addr × Obj)), (nw = (bg, W.listOf bvs.toArray eb) :: rest) → (StackAt rest D bvs st hi) → (st ≠ []) → (readL st (ps.drop i) = some [([], [v0])]) → ((∀ x ∈ base, x ∈ rest)) → ((∀ x ∈ rest, x.1 ≠ bg ∧ x.1 ≠ I)) → (m' (Str.ofString "begun") = some (.ref bg)) → (m' (Str.ofString "primes") = some (.ref pr)) → zG) → zG) (fun i m' nw bvs eb hi st rest zh0 zh1 zh2 zh3 zh4 zh5 zh6 zh7 _ zk => zk bvs eb hi st rest zh0 zh1 zh2 zh3 zh4 zh5 zh6 zh7) (fun i m' nw zG zk zh => zh zG zk)) ?_; intro J Jmk Jel
  refine forAt_S J K
    (fun m' => stable_list (fun i nw h => by refine Jel _ _ _ _ ?_ h; rintro bvs eb hi st rest rfl - - - hs -; intros; exact .inr ⟨_, .tail _ (hs _ hbm), rfl, _, rfl⟩)) ?jw ?_ ?_
  case' jw => refine Jmk _ _ _ ([Value.ref a0]) 0 a0 ([(p0, [])]) ((a0, W.listOf [Value.str (S p0) t0, Value.ref n0].toArray 0) :: (n0, W.listOf ([] : List Value).toArray 0) :: base) rfl (.cons hDn hna (.head _) (.tail _ (.head _)) .nil .nil) (by simp) hrd (fun x hx => .tail _ (.tail _ hx)) ?c1 (by ((try dsimp only); (repeat (first | exact if_pos rfl | with_reducible assumption | (refine (if_neg ?_).trans ?_; focus decide))); try rfl)) (by ((try dsimp only); (repeat (first | exact if_pos rfl | with_reducible assumption | (refine (if_neg ?_).trans ?_; focus decide))); try rfl))
  case jw =>
    intro x hx
    rcases List.mem_cons.mp hx with rfl | hx
    · exact ⟨Nat.ne_of_lt hab, Nat.ne_of_lt (Nat.lt_trans hab hIb)⟩
    rcases List.mem_cons.mp hx with rfl | hx
    · exact ⟨Nat.ne_of_lt (Nat.lt_trans hna hab), Nat.ne_of_lt (Nat.lt_trans (Nat.lt_trans hna hab) hIb)⟩
    refine ⟨?_, Nat.ne_of_lt (hbaseI x hx)⟩
    rw [hbase] at hx
    rcases List.mem_cons.mp hx with rfl | hx
    · exact Nat.ne_of_gt hbD2
    · exact Nat.ne_of_lt (Nat.lt_trans (hnD x hx) (Nat.lt_trans hDn (Nat.lt_trans hna hab)))
  · rintro i v m1 nw1 oI h5 tk5 hi9 hP JJ F5 N5 off5 hst5
    refine Jel _ _ _ _ ?_ JJ
    clear JJ
    rintro bvs eb a1 st rest rfl hst2 hne hrl hsub hoff em1 em2
    have hil : i < ps.length := by
      have : i < vps.toArray.size := hi9
      rw [List.size_toArray] at this
      wtm_at "lo"
    show (let zG : Prop := _; zG)
    intro zG
    obtain ⟨tp, hvp⟩ := hvps.get (i := i) (x := ps[i]) (List.getElem?_eq_getElem hil)
    obtain rfl : v = .str (S ps[i]) tp := by
      have h : vps[i]? = some v := by simpa using hP
      exact Option.some.inj (h.symm.trans hvp)
    rw [List.drop_eq_getElem_cons hil] at hrl
    obtain ⟨st', hstep, hrl'⟩ := readL_go hrl
    (try k_unmd); k_unfold
    generalize ps[i] = p at hstep hvp
    refine wpAny_pure ?_
    (try k_unmd); (try k_fold)
    have hbl := hst2.length
    have y1 : ∀ x ∈ rest, x.1 ≠ bg := fun x hx => (hoff x hx).1
    by_cases hp : p.take 1 = [47]
    · obtain ⟨name, nums, n2, ms, r9, number, rfl, hprod, hp2, hnm, hso, hnb, hnl, hml, hpl2, hr9l, rfl⟩ := step_pop hstep hp
      show (let zG : Prop := _; zG)
      intro zG
      obtain ⟨vsA, vsB, a2, rfl, hsA, hsB⟩ := hst2.split
      obtain ⟨v1, vsC, mid0, rfl, hs1, hsC⟩ := hsA.split
      obtain ⟨nB, e21, e22, t2, ws2, rfl, hlB, hlB2, hmB1, hmB2, hwsB⟩ := hsC.one
      obtain ⟨nA, e11, e12, t1, ws1, rfl, hlA, hlA2, hmA1, hmA2, hwsA⟩ := hsB.one
      have hD0 := hs1.le
      obtain ⟨rest1, hrest1⟩ : ∃ r : List (Addr × Obj), r = rest.filter (fun x => x.1 != nB) := ⟨_, rfl⟩
      have hf1 : ∀ x ∈ rest, x.1 ≠ nB → x ∈ rest1 := fun x hx h => by rw [hrest1]; exact List.mem_filter.mpr ⟨hx, by simpa using h⟩
      have hf2 : ∀ x ∈ rest1, x ∈ rest ∧ x.1 ≠ nB := fun x hx => by
        rw [hrest1] at hx
        obtain ⟨h1, h2⟩ := List.mem_filter.mp hx
        exact ⟨h1, by simpa using h2⟩
      have y2 : ∀ x ∈ rest1, x.1 ≠ bg := fun x hx => y1 x (hf2 x hx).1
      have y3 : ∀ x ∈ rest1, x.1 ≠ nB := fun x hx => (hf2 x hx).2
      have b1 : a1 ≠ bg := y1 _ hmA1
      have b2 : nA ≠ bg := y1 _ hmA2
      have b3 : a2 ≠ bg := y1 _ hmB1
      have b4 : nB ≠ bg := y1 _ hmB2
      have b5 : nB ≠ I := (hoff _ hmB2).2
      have hw2l := hwsB.length
      rw [NI_len] at hw2l
      have hDnB : D2 ≠ nB := by
        intro hE
        have g1 := (N5 _ (.tail _ (.tail _ (hsub _ hbm)))).1
        have g2 := (N5 _ (.tail _ (.tail _ hmB2))).1
        rw [hE] at g1
        have g3 := Option.some.inj (g1.symm.trans g2)
        have g4 : vps.toArray = ws2.toArray := by
          injection g3 with _ _ g3 _
          injection g3
        have g5 : vps = ws2 := by simpa using congrArg Array.toList g4
        rw [g5] at hvp
        obtain ⟨_, _, _, h9⟩ := ints_back hwsB hvp
        cases h9
      replace N5 : News g' L' h5 ((bg, W.listOf (v1 ++ [Value.ref a2] ++ [Value.ref a1]).toArray eb) :: (a1, W.listOf [Value.str (S name) t1, Value.ref nA].toArray e11) :: (nA, W.listOf ws1.toArray e12) :: (a2, W.listOf [Value.str (S n2) t2, Value.ref nB].toArray e21) :: (nB, W.listOf ws2.toArray e22) :: (I, oI) :: rest1) := news_sub N5 (sub_cons mem_1 (sub_cons (lift_2 hmA1) (sub_cons (lift_2 hmA2) (sub_cons (lift_2 hmB1) (sub_cons (lift_2 hmB2) (sub_cons mem_0 fun x h => lift_2 (hf2 x h).1))))))
      have hpr1 : (pr, tup pv) ∈ rest1 := hf1 _ (hsub _ (hbs _ hpr)) (by
        have := hnD _ hpr
        show pr ≠ nB
        wtm_at "lo")
      (try k_unmd); k_unfold
      k_steps
      · rename (Txt.slice _ _ _ != _) = true => hc
        rw [slice1', hp, sq_slash] at hc
        simp at hc
      · refine stop_in ?_
        rename Fr _ _ _ _ => FP
        rename News _ _ _ _ => NP
        refine pop_L (vs := v1 ++ [Value.ref a2]) FP NP (.head fun x hx => ?_) (by simp only [List.length_append, List.length_cons, List.length_nil] at hbl ⊢; wtm_at "lo") ?_
        · simp only [List.mem_cons] at hx
          rcases hx with h | h | h | h | h | h
          · rw [h]; exact b1
          · rw [h]; exact b2
          · rw [h]; exact b3
          · rw [h]; exact b4
          · rw [h]; exact Nat.ne_of_gt hIb
          · exact y2 x h
        intro h6 F6 N6
        clear FP NP
        k_steps
        refine stop_in ?_
        refine my_For (GB := fun g => s0g = g) (h₀ := g') ?_
        k_steps
        rename Fr _ _ _ _ => FP
        rename News _ _ _ _ => NP
        refine iter_list rfl ⟨_, (NP _ (.tail _ (.tail _ (.head _)))).1, rfl, _, rfl⟩ FP NP ?_
        intro I2 h7 hltI2 K2
        refine (fun (zk : ∀ (J2 : Nat → ((Str → Option Value)) → List (Addr × Obj) → Prop), (∀ (j : Nat) (m' : (Str → Option Value)) (nw : List (Addr × Obj)) (q : Nat) (tq : Tok), (nw = (bg, W.listOf (v1 ++ [Value.ref a2]).toArray (eb + 1)) :: (a1, W.listOf [Value.str (S name) t1, Value.ref nA].toArray e11) :: (nA, W.listOf ws1.toArray e12) :: (a2, W.listOf [Value.str (S n2) t2, Value.ref nB].toArray e21) :: (nB, W.listOf ws2.toArray e22) :: (I, oI) :: rest1) → (m' (Str.ofString "number") = some (.int (q : Nat) tq)) → (prodO q (nums.drop j) = some number) → (m' (Str.ofString "begun") = some (.ref bg)) → (m' (Str.ofString "primes") = some (.ref pr)) → (m' (Str.ofString "name") = some (.str (S name) t1)) → (m' (Str.ofString "numbers") = some (.ref nA)) → (m' (Str.ofString "piece") = some (.str (S p) tp)) → J2 j m' nw) → (∀ (j : Nat) (m' : (Str → Option Value)) (nw : List (Addr × Obj)) (zG : Prop), (∀ (q : Nat) (tq : Tok), (nw = (bg, W.listOf (v1 ++ [Value.ref a2]).toArray (eb + 1)) :: (a1, W.listOf [Value.str (S name) t1, Value.ref nA].toArray e11) :: (nA, W.listOf ws1.toArray e12) :: (a2, W.listOf [Value.str (S n2) t2, Value.ref nB].toArray e21) :: (nB, W.listOf ws2.toArray e22) :: (I, oI) :: rest1) → (m' (Str.ofString "number") = some (.int (q : Nat) tq)) → (prodO q (nums.drop j) = some number) → (m' (Str.ofString "begun") = some (.ref bg)) → (m' (Str.ofString "primes") = some (.ref pr)) → (m' (Str.ofString "name") = some (.str (S name) t1)) → (m' (Str.ofString "numbers") = some (.ref nA)) → (m' (Str.ofString "piece") = some (.str (S p) tp)) → zG) → J2 j m' nw → zG) → _) => zk (fun j m' nw => ∀ zG : Prop, (∀ (q : Nat) (tq : Tok), (nw = (bg, W.listOf (v1 ++ [Value.ref a2]).toArray (eb + 1)) :: (a1, W.listOf [Value.str (S name) t1, Value.ref nA].toArray e11) :: (nA, W.listOf ws1.toArray e12) :: (a2, W.listOf [Value.str (S n2) t2, Value.ref nB].toArray e21) :: (nB, W.listOf ws2.toArray e22) :: (I, oI) :: rest1) → (m' (Str.ofString "number") = some (.int (q : Nat) tq)) → (prodO q (nums.drop j) = some number) → (m' (Str.ofString "begun") = some (.ref bg)) → (m' (Str.ofString "primes") = some (.ref pr)) → (m' (Str.ofString "name") = some (.str (S name) t1)) → (m' (Str.ofString "numbers") = some (.ref nA)) → (m' (Str.ofString "piece") = some (.str (S p) tp)) → zG) → zG) (fun j m' nw q tq zh0 zh1 zh2 zh3 zh4 zh5 zh6 zh7 _ zk => zk q tq zh0 zh1 zh2 zh3 zh4 zh5 zh6 zh7) (fun j m' nw zG zk zh => zh zG zk)) ?_; intro J2 J2mk J2el
        refine' forAt_S J2 K2
          (fun m' => stable_list (fun i nw h => by refine J2el _ _ _ _ ?_ h; rintro q tq rfl -; intros; exact .inr ⟨_, .tail _ (.tail _ (.head _)), rfl, _, rfl⟩)) ?jv ?_ ?_
        case' jv => refine' J2mk _ _ _ 1 _ rfl ?f1 hprod ?f2 ?f3 ?f4 ?f5 ?f6
        case f1 => ((try dsimp only); (repeat (first | exact if_pos rfl | with_reducible assumption | (refine (if_neg ?_).trans ?_; focus decide))); try rfl)
        case f2 => ((try dsimp only); (repeat (first | exact if_pos rfl | with_reducible assumption | (refine (if_neg ?_).trans ?_; focus decide))); try rfl)
        case f3 => ((try dsimp only); (repeat (first | exact if_pos rfl | with_reducible assumption | (refine (if_neg ?_).trans ?_; focus decide))); try rfl)
        case f4 => ((try dsimp only); (repeat (first | exact if_pos rfl | with_reducible assumption | (refine (if_neg ?_).trans ?_; focus decide))); try rfl)
        case f5 => ((try dsimp only); (repeat (first | exact if_pos rfl | with_reducible assumption | (refine (if_neg ?_).trans ?_; focus decide))); try rfl)
        case f6 => ((try dsimp only); (repeat (first | exact if_pos rfl | with_reducible assumption | (refine (if_neg ?_).trans ?_; focus decide))); try rfl)
        · rintro j v m2 nw2 oI2 h8 tk8 hj hP2 JJ F8 N8 off8 hst8
          refine J2el _ _ _ _ ?_ JJ
          clear JJ
          rintro q tq rfl en0 hq en1 en2 en3 en4 en5
          show (let zG : Prop := _; zG)
          intro zG
          obtain ⟨x9, tx9, hx9, rfl⟩ := ints_back hwsA (i := j) (v := v) (by simpa using hP2)
          obtain ⟨c9, hc9, rfl⟩ := NI_get hx9
          obtain ⟨hjl, hc9e⟩ := List.getElem?_eq_some_iff.mp hc9
          rw [List.drop_eq_getElem_cons hjl, hc9e] at hq
          obtain ⟨pp, hv1, hv19, hq60, hpp, hq'⟩ := prodO_go hq
          have hpp100 := prime_lt hpp
          obtain ⟨tpp, hpi⟩ := int_get hpv (primesI_get hpp)
          (try k_unmd); k_unfold
          refine wpAny_pure ?_
          (try k_unmd); (try k_fold)
          k_steps
          rename News _ _ _ _ => NQ
          refine stop_in (item_tup (k := c9 - 1) NQ (.tail _ (.tail _ (.tail _ (.tail _ (.tail _ (.tail _ (.tail _ hpr1))))))) (by wtm_at "lo") hpi (by rw [hpv.length]; decide) ?_)
          k_steps
          rename Fr _ _ _ _ => FQ
          rename News _ _ _ _ => NQ
          refine' forEnd_mk FQ NQ off8 ?zC
          case' zC => refine' J2mk _ _ _ (q * pp) _ rfl ?z9h1 hq' ?h2 ?h3 ?h4 ?h5 ?h6
          case z9h1 => (rw [Int.natCast_mul]; ((try dsimp only); (repeat (first | exact if_pos rfl | with_reducible assumption | (refine (if_neg ?_).trans ?_; focus decide))); try rfl))
          case h2 => ((try dsimp only); (repeat (first | exact if_pos rfl | with_reducible assumption | (refine (if_neg ?_).trans ?_; focus decide))); try rfl)
          case h3 => ((try dsimp only); (repeat (first | exact if_pos rfl | with_reducible assumption | (refine (if_neg ?_).trans ?_; focus decide))); try rfl)
          case h4 => ((try dsimp only); (repeat (first | exact if_pos rfl | with_reducible assumption | (refine (if_neg ?_).trans ?_; focus decide))); try rfl)
          case h5 => ((try dsimp only); (repeat (first | exact if_pos rfl | with_reducible assumption | (refine (if_neg ?_).trans ?_; focus decide))); try rfl)
          case h6 => ((try dsimp only); (repeat (first | exact if_pos rfl | with_reducible assumption | (refine (if_neg ?_).trans ?_; focus decide))); try rfl)
        · rintro h8 tk8 m2 nw2 F8 N8 JJ
          refine J2el _ _ _ _ ?_ JJ
          clear JJ
          rintro q tq rfl en0 hq en1 en2 en3 en4 en5
          have hdn : nums.drop ws1.toArray.size = [] := by
            have := hwsA.length
            rw [NI_len] at this
            rw [List.size_toArray, this]; exact List.drop_length
          rw [hdn] at hq
          obtain rfl : q = number := by simpa [prodO_n] using hq
          clear K2
          have hnl9 : name.length ≤ 1000 := by rw [hp2] at hpl2; simp at hpl2; wtm_at "lo"
          k_steps
          refine stop_in (add_S sq_slash rfl (by simp only [List.length_cons, List.length_nil]; wtm_at "lo") (fun tA kA => ?_))
          k_steps
          · rename (S p != _) = true => hc
            rw [hp2] at hc
            simp at hc
          refine stop_in ?_
          rename Fr _ _ _ _ => FL
          rename News _ _ _ _ => NL
          refine c_letters (h₀ := g') (L := L') q tq B' FL X' NL T' ?r4 ?r5 ?r1 ?r2 (by wtm_at "lo") ?_
          case r4 => exact rfl
          case r5 => exact rfl
          case r1 => k_room
          case r2 => k_units
          intro nx h9 tk9 t9 F9 N9
          replace N9 := news_sub N9 fun x hx => List.mem_append_right nx hx
          clear FL NL
          have hlq : (letters q).length + 1 = name.length := by rw [hnm]; simp
          k_steps
          refine stop_in (add_S rfl sq_gt (by simp only [List.length_cons, List.length_nil]; wtm_at "lo") (fun tB kB => ?_))
          k_steps
          · rename (S name != _) = true => hc
            rw [hnm] at hc
            simp at hc
          refine stop_in ?_
          rename Fr _ _ _ _ => FL
          rename News _ _ _ _ => NL
          refine kso_sorted FL NL ⟨_, (NL _ (.tail _ (.tail _ (.head _)))).1, rfl, _, rfl⟩ hwsA (by rw [NI_len]; wtm_at "lo") ?_
          intro D9 vs9 ns9 e9 h10 F10 N10 lD9 hvs9 _ hperm hpw _
          obtain rfl : ns9 = NI nums := lks_uniq hperm hpw (sortedB_pw hso)
          clear FL NL
          refine ne_intsK (ns := NI nums) (ms := NI nums) ⟨_, (N10 _ (.tail _ (.tail _ (.tail _ (.head _))))).1, rfl, _, rfl⟩ hwsA ⟨_, (N10 _ (.head _)).1, rfl, _, rfl⟩ hvs9 ?_ ?_
          · k_units
          k_lt lD9
          k_steps
          · refine stop_in ?_
            rename News _ _ _ _ => NL
            refine last_lst (vs := v1) NL (.tail _ (.head _)) ?_
            k_steps
            refine stop_in ?_
            rename News _ _ _ _ => NL
            refine item_lst (k := 1) NL (.tail _ (.tail _ (.tail _ (.tail _ (.head _))))) rfl rfl (by wtm_at "lo") ?_
            k_steps
            rename Fr _ _ _ _ => FE
            rename News _ _ _ _ => NE
            refine forEnd_mk FE (news_lq NE) ?d0 ?zA
            case' zA => refine Jmk _ _ _ _ _ a2 (r9 ++ [(n2, ms ++ [q])]) _ rfl ((hs1.off (fun x hx hl => ?d2)).join (s2 := [(n2, ms ++ [q])]) (.cons hlB hlB2 (.tail _ (.tail _ (.tail _ (.head _)))) (.tail _ (.tail _ (.tail _ (.tail _ (.head _))))) ?d3 .nil)) (by simp) hrl' (fun x hx => ?d4) ?d1 (by ((try dsimp only); (repeat (first | exact if_pos rfl | with_reducible assumption | (refine (if_neg ?_).trans ?_; focus decide))); try rfl)) (by ((try dsimp only); (repeat (first | exact if_pos rfl | with_reducible assumption | (refine (if_neg ?_).trans ?_; focus decide))); try rfl))
            case d2 =>
              refine .tail _ (.tail _ (.tail _ (.tail _ (.tail _ (hf1 x hx ?_)))))
              exact Nat.ne_of_lt (Nat.lt_of_le_of_lt hl hlB)
            case d3 =>
              rw [NI_app]
              exact ints_app hwsB (.cons _ _ .nil)
            case d4 =>
              refine .tail _ (.tail _ (.tail _ (.tail _ (.tail _ (hf1 x (hsub x hx) ?_)))))
              rw [hbase] at hx
              rcases List.mem_cons.mp hx with rfl | hx
              · exact hDnB
              · have h1 := hnD x hx
                exact Nat.ne_of_lt (Nat.lt_of_lt_of_le h1 (Nat.le_trans hD0 (Nat.le_of_lt hlB)))
            case d0 =>
              intro x hx
              simp only [List.mem_cons] at hx
              rcases hx with h | h | h | h | h | h | h
              · rw [h]; exact Nat.ne_of_lt hIb
              · rw [h]; exact (hoff _ hmA1).2
              · rw [h]; exact (hoff _ hmA2).2
              · rw [h]; exact Nat.ne_of_gt lD9.2.2.2.2.2.1
              · rw [h]; exact (hoff _ hmB1).2
              · rw [h]; exact b5
              · exact (hoff x (hf2 x h).1).2
            case d1 =>
              intro x hx
              simp only [List.mem_cons] at hx
              rcases hx with h | h | h | h | h | h
              · rw [h]; exact hoff _ hmA1
              · rw [h]; exact hoff _ hmA2
              · rw [h]; exact ⟨Nat.ne_of_gt lD9.1, Nat.ne_of_gt lD9.2.2.2.2.2.1⟩
              · rw [h]; exact hoff _ hmB1
              · rw [h]; exact ⟨b4, b5⟩
              · exact hoff x (hf2 x h).1
          · rename (¬ NI nums = NI nums) => hc
            exact absurd rfl hc
    · obtain ⟨hstl, hpl2, rfl⟩ := step_push hstep hp
      k_steps
      · rename Fr _ _ _ _ => FE
        rename News _ _ _ _ => NE
        rename_i n9 _ lN a9 _ _ _ lA _
        obtain ⟨otop, htop⟩ := hst2.top hne
        have hn9 : ∀ x ∈ rest, @LT.lt Nat _ x.1 n9 := allLt_mem lN.2.2
        have hIn9 : @LT.lt Nat _ I n9 := lN.1
        have hbn9 : @LT.lt Nat _ bg n9 := lN.2.1
        have hna9 : @LT.lt Nat _ n9 a9 := lA.1
        refine forEnd_mk FE (news_lp NE) ?d0 ?zB
        case' zB => refine Jmk _ _ _ _ _ a9 (st ++ [(p, [])]) _ rfl ((hst2.mono fun x hx => .tail _ (.tail _ hx)).join (s2 := [(p, [])]) (.cons (hn9 _ htop) hna9 (.head _) (.tail _ (.head _)) .nil .nil)) (by simp) hrl' (fun x hx => .tail _ (.tail _ (hsub x hx))) ?d1 (by ((try dsimp only); (repeat (first | exact if_pos rfl | with_reducible assumption | (refine (if_neg ?_).trans ?_; focus decide))); try rfl)) (by ((try dsimp only); (repeat (first | exact if_pos rfl | with_reducible assumption | (refine (if_neg ?_).trans ?_; focus decide))); try rfl))
        case d0 =>
          intro x hx
          simp only [List.mem_cons] at hx
          rcases hx with h | h | h | h
          · rw [h]; exact Nat.ne_of_lt hIb
          · rw [h]; exact Nat.ne_of_gt (Nat.lt_trans hIn9 hna9)
          · rw [h]; exact Nat.ne_of_gt hIn9
          · exact (hoff x h).2
        case zB =>
          intro x hx
          simp only [List.mem_cons] at hx
          rcases hx with h | h | h
          · rw [h]; exact ⟨Nat.ne_of_gt (Nat.lt_trans hbn9 hna9), Nat.ne_of_gt (Nat.lt_trans hIn9 hna9)⟩
          · rw [h]; exact ⟨Nat.ne_of_gt hbn9, Nat.ne_of_gt hIn9⟩
          · exact hoff x h
      · rename (Txt.slice _ _ _ != _) = false => hc
        rw [slice1', sq_slash] at hc
        refine absurd ?_ hp
        have h := eq_of_beq (by simpa using hc : (S (p.take 1) == S [47]) = true)
        simpa [S] using h
  · rintro h5 tk5 m1 nw1 F5 N5 JJ
    refine Jel _ _ _ _ ?_ JJ
    clear JJ
    rintro bvs eb a st rest rfl hst2 hne hrl hsub hoff em1 em2
    have hdn : ps.drop vps.toArray.size = [] := by rw [List.size_toArray, hvl]; exact List.drop_length
    rw [hdn] at hrl
    show (let zG : Prop := _; zG)
    intro zG
    obtain rfl : st = [([], [v0])] := by simpa [readL_n] using hrl
    obtain ⟨n, e1, e2, t, ws, rfl, hl1, hl2, hm1, hm2, hws⟩ := hst2.one
    obtain ⟨t9, rfl⟩ : ∃ t9, ws = [.int (v0 : Nat) t9] := by
      cases hws with
      | cons y t hr => cases hr; exact ⟨_, rfl⟩
    (try k_unmd); k_unfold
    k_steps
    rename News h₀ _ _ _ => NZ
    rename Fr h₀ _ _ _ => FZ
    refine ret bg a n t t9 _ _ eb e1 e2 FZ (news_sub NZ fun x hx => ?_)
    simp only [List.mem_cons] at hx ⊢
    rcases hx with h | h | h | h
    · exact .inl h
    · rw [h]; exact .inr hm1
    · rw [h]; exact .inr hm2
    · exact .inr (hsub _ (hbs _ h))
end Mine.Internal
end PartClread
theorem Mine.Internal.fresh26 : True ∧ True := by
  w_top off
  first | (walk1; fail) | exact ⟨trivial, trivial⟩
section PartClaw
open PySem PySem.W PyProof.Rows PyProof.Rows.LCg
namespace Mine.Internal
noncomputable def EndG (tabs : List (Addr × Addr)) (s₁ : Shared) (res : Result) (s' : Shared) : Prop :=
  res = .ok (.ret (.bool true)) ∧ (∀ b o, (ghostOf s₁.heap tabs).get? b = some o → s'.heap.get? b = some o) ∧ s'.os = s₁.os ∧ AllBare s'.gens
theorem five_get {a b c d i : Nat} (hi : i < 5) : ∃ x : Int, [((a : Nat) : Int), ((b : Nat) : Int), -((c : Nat) : Int), ((d : Nat) : Int), 0][i]? = some x ∧ x.natAbs = [a, b, c, d, 0].getD i 0 := by
  rcases lt5 hi with h | h | h | h | h <;> subst h
  · exact ⟨_, rfl, Int.natAbs_natCast a⟩
  · exact ⟨_, rfl, Int.natAbs_natCast b⟩
  · exact ⟨_, rfl, (Int.natAbs_neg _).trans (Int.natAbs_natCast c)⟩
  · exact ⟨_, rfl, Int.natAbs_natCast d⟩
  · exact ⟨_, rfl, rfl⟩
theorem five_lt {a b c d i : Nat} (h0 : a < 2 ^ 120) (h1 : b < 2 ^ 120) (h2 : c < 2 ^ 120) (h3 : d < 2 ^ 120) (hi : i < 5) : [a, b, c, d, 0].getD i 0 < 2 ^ 120 := by
  rcases lt5 hi with h | h | h | h | h <;> subst h
  · exact h0
  · exact h1
  · exact h2
  · exact h3
  · exact Nat.pow_pos (by decide)
theorem pow12 {i : Nat} (hi : i < 5) : ∃ p : Nat, 12 ^ i = p ∧ (1 ≤ p ∧ p ≤ 20736) :=
  ⟨_, rfl, (by decide : ∀ i, i < 5 → 1 ≤ 12 ^ i ∧ 12 ^ i ≤ 20736) i hi⟩
theorem rd_ne {h₀ h : Heap} {L : Addr} {l : List (Addr × Obj)} {x : Addr × Obj} {b : Addr} {ob : Obj} (N : News h₀ L h l) (hx : x ∈ l) (hb : (b, ob) ∈ l)
    (hd : (∃ fd, x.2.data = .func fd) ∨ ∃ vs q t, x.2.data = .fields vs ∧ vs[1]? = some (.str q t)) (g : (∃ c, ob.data = .cell c) ∨ ob = tabObj #[]) : x.1 ≠ b := fun he => by
  have e1 := (N _ hx).1
  rw [he] at e1
  have e3 : x.2 = ob := Option.some.inj (e1.symm.trans (N _ hb).1)
  rw [e3] at hd
  rcases g with ⟨c, g⟩ | g
  · rcases hd with ⟨fd, hd⟩ | ⟨vs, q, t, hd, _⟩
    · rw [g] at hd; cases hd
    · rw [g] at hd; cases hd
  · subst g
    rcases hd with ⟨fd, hd⟩ | ⟨vs, q, t, hd, hq⟩
    · cases hd
    · injection hd with hd
      rw [← hd] at hq
      cases hq
theorem sgs3 {ys : List Value} {a b c : List Nat} (h : SgsAre ys [a, b, c]) : ∃ ta tb tc, ys = [Value.str (S a) ta, Value.str (S b) tb, Value.str (S c) tc] := by
  cases ys with
  | nil => exact h.elim
  | cons x ys =>
    cases ys with
    | nil => exact h.2.elim
    | cons y ys =>
      cases ys with
      | nil => exact h.2.2.elim
      | cons z ys =>
        cases ys with
        | nil =>
          obtain ⟨⟨ta, rfl⟩, ⟨tb, rfl⟩, ⟨tc, rfl⟩, _⟩ := h
          exact ⟨ta, tb, tc, rfl⟩
        | cons _ _ => exact h.2.2.2.elim
theorem post_bare {M : Model} {A : Around} {cd : Code} {s s₁ : Shared} {cw : ClaimW} {cl : Str → Option Addr} {mean : ExcName → Option Value} {args : List WData} {tabs : List (Addr × Addr)} (hT : TabsAt tabs s₁.heap)
    (hr : ∀ x, cw.raises args x = false) (hp : cw.post args (.bool true) args = true) (h : codeAny M A cd (fun r s' => EndG tabs s₁ r s' ∧ GrownAll tabs s'.heap) s) : codeAny M A cd (GoodWG cw cl mean args s₁) s := by
  refine codeAny_mono h fun r s' hx => ?_
  obtain ⟨⟨rfl, hk, hos, hg⟩, hgr⟩ := hx
  have at1 : ∀ b o, s₁.heap.get? b = some o → (∃ ps, isCodeTable s₁.heap b ∧ o = tabObj #[] ∧ s'.heap.get? b = some (tabObj ps)) ∨ s'.heap.get? b = some o := fun b o e => by
    by_cases hb : b ∈ tabs.map (·.2)
    · obtain ⟨q, hq, rfl⟩ := List.mem_map.mp hb
      have z := hT q hq
      obtain ⟨ps, hps⟩ := hgr.get q hq
      exact .inl ⟨ps, (z.1.tab z.2).isCodeTable, Option.some.inj (e.symm.trans z.2), hps⟩
    · exact .inr (hk b o (ghost_ne e hb))
  refine ⟨.inl ⟨_, .bool true, [], rfl, hr, ReadsW.bool true, hp, fun _ => ⟨List.nodup_nil, fun _ hm => (nomatch hm)⟩⟩, ⟨fun b o e => ?_, fun b o e => ?_⟩, hos, hg⟩
  · rcases at1 b o e with ⟨ps, h1, rfl, h3⟩ | h
    · exact .inr (.inl ⟨h1, rfl, #[], ps, rfl, by rw [Array.empty_append]; exact h3⟩)
    · exact .inl h
  · rcases at1 b o e with ⟨ps, _, _, h3⟩ | h
    · exact ⟨_, h3⟩
    · exact ⟨o, h⟩
set_option hygiene false in
local macro_rules | `(tactic| kn_posts) => `(tactic| (focus refine' post_bare ?_ ?_ ?_ ?_; rotate_right 4; assumption; exact fun _ => rfl; (focus first | rfl | wrow_post)))
set_option hygiene false in
local macro_rules | `(tactic| walk_at "binaryOp Mult int int") => `(tactic| (k_here; refine PyProof.Rows.mul_int ?_ (PySem.IntMulOk.of_right (PySem.intBits_le_64 (by wtm_at "lo") (by wtm_at "lo")))))
set_option hygiene false in
local macro_rules | `(tactic| walk_at "subscriptTail") => `(tactic| (k_here; (with_reducible show wpAny _ _ (subscriptTail (PySem.Expr.Name _ _) _ _ _) _ _ _); refine stop_out ?_))
set_option maxHeartbeats 2000000 in
theorem law_holds (LF : ∀ ns : List Int, ns.length < 64 → LawFacts (linksOf (cellsOf ns) (sizeOf' ns - 1)) (goalOf (cellsOf ns) (sizeOf' ns - 1)) (wantedOf (cellsOf ns)) (drawOf (cellsOf ns))) : PySem.Challenge.rw_kl0306_01.Holds := by
  refine hd (by
    k_go0
    rename_i w s₀ s₁ mg mb G Y fa o pm cd doc ho hcd hg X V T B TE TW ns hs hlay0 hL1 hr1 hl2 wA wB a vs wC hL ra w1 r0 hI hr hcond hc2 hD h₁ tk₁ c4 c3 c2 c1 d4 d3 d2 d1 X0 X' T' K' F' codeHd1 N' l0
    have h64 : ns.length < 64 := by wtm_at "lo"
    have hgens := hg
    clear G Y ho hcd X V B TE TW hs hlay0 hL1 hr1 hl2 ra w1 r0 hr hcond hc2 hD hT8 hT9 X0
    replace d4 : c4.data = .cell none := d4.trans (by kernel_rfl)
    replace d3 : c3.data = .cell none := d3.trans (by kernel_rfl)
    replace d2 : c2.data = .cell none := d2.trans (by kernel_rfl)
    replace d1 : c1.data = .cell none := d1.trans (by kernel_rfl)
    generalize hh0 : ghostOf s₁.heap [(174, 172), (223, 219)] = g0 at *
    generalize hS0 : s₁.heap.objs.size = S0 at *
    rename Fr _ _ _ _ => F1'
    show (let zG : Prop := _; zG)
    intro zG
    obtain ⟨m1', FA, em_script⟩ : ∃ m1 : Str → Option Value, Fr g0 S0 h₁ m1 ∧ m1 (Str.ofString "script") = some (.ref a) := ⟨_, F1', by rfl⟩
    clear F1'
    (try k_unmd); k_unfold
    (try k_unmd); (try k_fold)
    show (let zA := _; let ze := _; wpAny _ zA (execs _ ze) _ _ _)
    intro zA ze
    have hStop0 : StopAt "call ref" := trivial
    have hStop1 : StopAt "binaryOp Pow int int" := trivial
    have hStop2 : StopAt "exec Assign cons ListComp" := trivial
    have hStop3 : StopAt "exec Assign cons Call Attribute" := trivial
    have hStop4 : StopAt "eval ListComp" := trivial
    have hStop5 : StopAt "call builtin:str.join" := trivial
    have hStop6 : StopAt "compareOp NotEq ref ref" := trivial
    have hStop7 : StopAt "compareOp Eq ref ref" := trivial
    have hStop8 : StopAt "call builtin:str.count" := trivial
    have hStop9 : StopAt "compareOp NotEq int int" := trivial
    k_steps
    refine stop_in ?_
    rename Fr _ _ _ _ => FA
    rename News _ _ _ _ => NA
    refine c_drawn a vs ns 0 K' FA X' NA T' ?r4 ?r5 ?r1 ?r2 lifted hI h64 ?_
    case r4 => exact rfl
    case r5 => exact rfl
    case r1 => k_room
    case r2 => k_units
    intro R lD lvs le nx h2 tk2 a1 a2 a3 F2 N2 hlD hlk hsub
    clear FA NA
    show (let zG : Prop := _; zG)
    intro zG
    obtain ⟨nx1, hnx1⟩ : ∃ r : List (Addr × Obj), r = nx.filter (fun x => x.1 != 172 && x.1 != 219 && x.1 != S0 + 1 && x.1 != S0 + 1 + 1 && x.1 != S0 + 1 + 1 + 1 && x.1 != S0 + 1 + 1 + 1 + 1) := ⟨_, rfl⟩
    have hpick : ∀ x ∈ nx, (∃ xs n, x.2.data = .seq xs n) → x ∈ nx1 := fun x hx hd => by
      have key : ∀ (b : Addr) (ob : Obj), (b, ob) ∈ nx → (∀ xs n, ob.data ≠ .seq xs n) → x.1 ≠ b := fun b ob hb hn he => by
        have e1 := (N2 _ (.tail _ hx)).1
        have e2 := (N2 _ (.tail _ hb)).1
        rw [he] at e1
        obtain ⟨xs, n, hdd⟩ := hd
        rw [Option.some.inj (e1.symm.trans e2)] at hdd
        exact hn xs n hdd
      rw [hnx1]
      refine List.mem_filter.mpr ⟨hx, ?_⟩
      have k1 := key 172 _ (hsub _ (.tail _ (.tail _ (.tail _ (.tail _ (.head _)))))) (by intro _ _ h; cases h)
      have k2 := key 219 _ (hsub _ (.tail _ (.tail _ (.tail _ (.tail _ (.tail _ (.head _))))))) (by intro _ _ h; cases h)
      have k3 := key (S0 + 1 + 1 + 1 + 1) _ (hsub _ (.head _)) (by rw [d4]; intro _ _ h; cases h)
      have k4 := key (S0 + 1 + 1 + 1) _ (hsub _ (.tail _ (.head _))) (by rw [d3]; intro _ _ h; cases h)
      have k5 := key (S0 + 1 + 1) _ (hsub _ (.tail _ (.tail _ (.head _)))) (by rw [d2]; intro _ _ h; cases h)
      have k6 := key (S0 + 1) _ (hsub _ (.tail _ (.tail _ (.tail _ (.head _))))) (by rw [d1]; intro _ _ h; cases h)
      simp only [Bool.and_eq_true, bne_iff_ne, ne_eq]
      exact ⟨⟨⟨⟨⟨k1, k2⟩, k6⟩, k5⟩, k4⟩, k3⟩
    have hn1 : ∀ x ∈ nx1, x.1 ≠ 172 ∧ x.1 ≠ 219 ∧ x.1 ≠ S0 + 1 ∧ x.1 ≠ S0 + 1 + 1 ∧ x.1 ≠ S0 + 1 + 1 + 1 ∧ x.1 ≠ S0 + 1 + 1 + 1 + 1 := fun x hx => by
      rw [hnx1] at hx
      have h := (List.mem_filter.mp hx).2
      simp only [Bool.and_eq_true, bne_iff_ne, ne_eq] at h
      exact ⟨h.1.1.1.1.1, h.1.1.1.1.2, h.1.1.1.2, h.1.1.2, h.1.2, h.2⟩
    replace hlk := hlk.pick (news' := nx1) fun t vs ht => hpick _ ht ⟨_, _, rfl⟩
    replace hlD := hpick _ hlD ⟨_, _, rfl⟩
    have hRk : R ≠ 172 ∧ R ≠ 219 ∧ R ≠ S0 + 1 ∧ R ≠ S0 + 1 + 1 ∧ R ≠ S0 + 1 + 1 + 1 ∧ R ≠ S0 + 1 + 1 + 1 + 1 := by
      have key : ∀ (b : Addr) (ob : Obj), (b, ob) ∈ nx → (∀ xs n, ob.data ≠ .seq xs n) → R ≠ b := fun b ob hb hn he => by
        have e1 := (N2 _ (.head _)).1
        have e2 := (N2 _ (.tail _ hb)).1
        rw [he] at e1
        have e3 : _ = ob := Option.some.inj (e1.symm.trans e2)
        rw [← e3] at hn
        exact hn _ _ rfl
      exact ⟨key 172 _ (hsub _ (.tail _ (.tail _ (.tail _ (.tail _ (.head _)))))) (by intro _ _ h; cases h), key 219 _ (hsub _ (.tail _ (.tail _ (.tail _ (.tail _ (.tail _ (.head _))))))) (by intro _ _ h; cases h),
        key _ _ (hsub _ (.tail _ (.tail _ (.tail _ (.head _))))) (by rw [d1]; intro _ _ h; cases h), key _ _ (hsub _ (.tail _ (.tail _ (.head _)))) (by rw [d2]; intro _ _ h; cases h), key _ _ (hsub _ (.tail _ (.head _))) (by rw [d3]; intro _ _ h; cases h), key _ _ (hsub _ (.head _)) (by rw [d4]; intro _ _ h; cases h)⟩
    have N3 := news_sub N2 (news' := (S0 + 1 + 1 + 1 + 1, c4) :: (S0 + 1 + 1 + 1, c3) :: (S0 + 1 + 1, c2) :: (S0 + 1, c1) :: (172, tabObj #[]) :: (219, tabObj #[]) :: (R, tup [.ref lD, .int (goalOf (cellsOf ns) (sizeOf' ns - 1) : Nat) a1, .int (wantedOf (cellsOf ns) : Nat) a2, .int (drawOf (cellsOf ns) : Nat) a3]) :: nx1) (sub_cons (lift_1 (hsub _ mem_0)) (sub_cons (lift_1 (hsub _ mem_1)) (sub_cons (lift_1 (hsub _ mem_2)) (sub_cons (lift_1 (hsub _ mem_3)) (sub_cons (lift_1 (hsub _ mem_4)) (sub_cons (lift_1 (hsub _ mem_5)) (sub_cons mem_0 fun x h => lift_1 (by rw [hnx1] at h; exact (List.mem_filter.mp h).1))))))))
    clear N2 hsub hnx1 hpick
    have z1 : ∀ x ∈ nx1, x.1 ≠ S0 + 1 + 1 + 1 + 1 := fun x hx => (hn1 x hx).2.2.2.2.2
    have z2 : ∀ x ∈ nx1, x.1 ≠ S0 + 1 + 1 + 1 := fun x hx => (hn1 x hx).2.2.2.2.1
    have z3 : ∀ x ∈ nx1, x.1 ≠ S0 + 1 + 1 := fun x hx => (hn1 x hx).2.2.2.1
    have z4 : ∀ x ∈ nx1, x.1 ≠ S0 + 1 := fun x hx => (hn1 x hx).2.2.1
    have z5 : ∀ x ∈ nx1, x.1 ≠ 172 := fun x hx => (hn1 x hx).1
    have z6 : ∀ x ∈ nx1, x.1 ≠ 219 := fun x hx => (hn1 x hx).2.1
    obtain ⟨q1, q2, q3, q4, q5, q6⟩ := hRk
    obtain ⟨l01, l02⟩ := l0
    (try k_unmd); k_unfold
    k_steps
    refine stop_in ?_
    rename Obj => cDraw
    rename (_ = Data.cell _) => dDraw
    have Z := LF ns h64
    generalize linksOf (cellsOf ns) (sizeOf' ns - 1) = lk at *
    generalize goalOf (cellsOf ns) (sizeOf' ns - 1) = goal at *
    generalize wantedOf (cellsOf ns) = wanted at *
    generalize drawOf (cellsOf ns) = draw at *
    rename Fr _ _ _ _ => FA
    rename News _ _ _ _ => NA
    show wpAny _ _ (call (.ref 241) []) _ _ _
    refine c_primes K' FA X' NA T' ?r4 ?r5 ?r1 ?r2 ?_
    case r4 => exact rfl
    case r5 => exact rfl
    case r1 => k_room
    case r2 => k_units
    intro pr pv h3 tk3 F3 N4 lpr hpv
    clear FA NA
    k_lt lpr
    k_steps
    refine stop_in ?_
    rename Obj => cPr
    rename (_ = Data.cell _) => dPr
    rename Fr _ _ _ _ => FA
    rename News _ _ _ _ => NA
    refine Z _ ?_
    clear Z
    intro number moved n2 first second third whole page k0 k1 k2 k3 k4 k5 tok0 tok1 tok2 nf0 inf0 xs0 nf1 inf1 xs1 nf2 inf2 xs2 hu rh hu2 hlk10 hn hm hw hg hwh hwb hpg hpl hff hch g0 g1 g2 rd t3 t4 t5 pb pe
    have hnum : number * moved * wanted ≤ 1000000 := Nat.le_trans (Nat.mul_le_mul (Nat.mul_le_mul hn.2 hm.2) hw.2) (by decide)
    have hpr1 := NA _ (.head _)
    show wpAny _ _ (call (.ref 251) [.ref lD, .int ((1 : Nat) : Int) _, .int ((0 : Nat) : Int) _, .ref pr]) _ _ _
    have hk1 : ∀ {x}, x ∈ nx1 → x ∈ (pr, tup pv) :: (S0 + 1 + 1 + 1 + 1, c4) :: (S0 + 1 + 1 + 1, c3) :: (S0 + 1 + 1, cPr) :: (S0 + 1, cDraw) :: (172, tabObj #[]) :: (219, tabObj #[]) :: (R, tup [.ref lD, .int (goal : Nat) a1, .int (wanted : Nat) a2, .int (draw : Nat) a3]) :: nx1 := fun h => .tail _ (.tail _ (.tail _ (.tail _ (.tail _ (.tail _ (.tail _ (.tail _ h)))))))
    refine c_hung 10 lD pr 1 0 _ _ lk lvs le pv number first K' FA X' NA T' ?r4 ?r5 ?r1 ?r2 (hk1 hlD) (hlk.mono fun x hx => hk1 hx) hlk10 (.head _) hpv hu ?_
    case r4 => exact rfl
    case r5 => exact rfl
    case r1 => k_room
    case r2 => k_units
    intro R2 h4 tk4 b1 b2 F4 N5 lR2
    clear FA NA
    k_lt lR2
    k_steps
    refine stop_in ?_
    rename Fr _ _ _ _ => FA
    rename News _ _ _ _ => NA
    have NB := news_sub NA (news' := (pr, tup pv) :: (S0 + 1 + 1 + 1 + 1, c4) :: (S0 + 1 + 1 + 1, c3) :: (S0 + 1 + 1, cPr) :: (S0 + 1, cDraw) :: (172, tabObj #[]) :: (219, tabObj #[]) :: nx1) (by wtm_at "msub")
    clear NA
    have hk2 : ∀ {x}, x ∈ nx1 → x ∈ (pr, tup pv) :: (S0 + 1 + 1 + 1 + 1, c4) :: (S0 + 1 + 1 + 1, c3) :: (S0 + 1 + 1, cPr) :: (S0 + 1, cDraw) :: (172, tabObj #[]) :: (219, tabObj #[]) :: nx1 := fun h => .tail _ (.tail _ (.tail _ (.tail _ (.tail _ (.tail _ (.tail _ h))))))
    refine c_rehung lD pr goal number _ _ lk lvs le pv moved K' FA X' NB T' ?r4 ?r5 ?r1 ?r2 (hk2 hlD) (hlk.mono fun x hx => hk2 hx) hlk10 (.head _) hpv rh ?_
    case r4 => exact rfl
    case r5 => exact rfl
    case r1 => k_room
    case r2 => k_units
    intro nx5 h5 tk5 b3 F5 N6
    replace N6 := news_sub N6 fun x hx => List.mem_append_right nx5 hx
    clear FA NB
    k_steps
    refine stop_in ?_
    refine PyProof.Rows.pow_int_small (by wtm_at "inc") (by wtm_at "inc") ?_ ?_
    · rw [show ((number : Nat) : Int) * (moved : Nat) * (wanted : Nat) = ((number * moved * wanted : Nat) : Int) from by rw [Int.natCast_mul, Int.natCast_mul]]
      rw [Int.natAbs_natCast]
      exact Nat.lt_of_le_of_lt hnum (by decide)
    rw [show ((number : Nat) : Int) * (moved : Nat) * (wanted : Nat) = ((number * moved * wanted : Nat) : Int) from by rw [Int.natCast_mul, Int.natCast_mul], show ((goal : Nat) : Int).toNat = goal from rfl, show (((number * moved * wanted : Nat) : Int)) ^ goal = ((whole : Nat) : Int) from by rw [hwh, Int.natCast_pow]]
    k_steps
    refine stop_in ?_
    rename Obj => cTold
    rename (_ = Data.cell _) => dTold
    rename Fr _ _ _ _ => FB
    rename News _ _ _ _ => NB
    rename_i tl _ lT _
    show (let zG : Prop := _; zG)
    intro zG
    obtain ⟨tvs, htv, NC⟩ : ∃ tvs : List Value, IntsAre tvs [((number : Nat) : Int), ((moved : Nat) : Int), -((wanted : Nat) : Int), ((whole : Nat) : Int), 0] ∧ News _ _ _ ((tl, W.listOf tvs.toArray 0) :: (pr, tup pv) :: (S0 + 1 + 1 + 1 + 1, c4) :: (S0 + 1 + 1 + 1, cTold) :: (S0 + 1 + 1, cPr) :: (S0 + 1, cDraw) :: (172, tabObj #[]) :: (219, tabObj #[]) :: nx1) := ⟨_, .cons _ _ (.cons _ _ (.cons _ _ (.cons _ _ (.cons _ _ .nil)))), NB⟩
    clear NB
    (try k_unmd); k_unfold
    refine' my_ListComp' FB (GB := fun g => s₁.gens = g) (cl := _) ?qc (by decide) (by rfl) (by decide) ?_
    case qc => with_unfolding_all rfl
    k_steps
    rename Fr _ _ _ _ => FR
    rename News _ _ _ _ => NR
    rename (IsRange _ _ _ _ _ _ _ _) => hr
    refine iter_range (n := 5) rfl hr (by decide) (by decide) FR NR ?_
    intro I2 h7 St2 hSt2 K2
    clear hr
    (try dsimp only at K2); (try dsimp only)
    refine (fun (zk : ∀ (JA : Nat → List Value → List (Addr × Obj) → Prop), (∀ (i : Nat) (ys : List Value) (nw : List (Addr × Obj)) , (nw = (tl, W.listOf tvs.toArray 0) :: (pr, tup pv) :: (S0 + 1 + 1 + 1 + 1, c4) :: (S0 + 1 + 1 + 1, cTold) :: (S0 + 1 + 1, cPr) :: (S0 + 1, cDraw) :: (172, tabObj #[]) :: (219, tabObj #[]) :: nx1) → (SgsAre ys (pageL [number, moved, wanted, whole, 0] draw i)) → JA i ys nw) → (∀ (i : Nat) (ys : List Value) (nw : List (Addr × Obj)) (zG : Prop), ((nw = (tl, W.listOf tvs.toArray 0) :: (pr, tup pv) :: (S0 + 1 + 1 + 1 + 1, c4) :: (S0 + 1 + 1 + 1, cTold) :: (S0 + 1 + 1, cPr) :: (S0 + 1, cDraw) :: (172, tabObj #[]) :: (219, tabObj #[]) :: nx1) → (SgsAre ys (pageL [number, moved, wanted, whole, 0] draw i)) → zG) → JA i ys nw → zG) → _) => zk (fun i ys nw => ∀ zG : Prop, ((nw = (tl, W.listOf tvs.toArray 0) :: (pr, tup pv) :: (S0 + 1 + 1 + 1 + 1, c4) :: (S0 + 1 + 1 + 1, cTold) :: (S0 + 1 + 1, cPr) :: (S0 + 1, cDraw) :: (172, tabObj #[]) :: (219, tabObj #[]) :: nx1) → (SgsAre ys (pageL [number, moved, wanted, whole, 0] draw i)) → zG) → zG) (fun i ys nw  zh0 zh1 _ zk => zk  zh0 zh1) (fun i ys nw zG zk zh => zh zG zk)) ?_; intro JA JAmk JAel
    refine compAt_S JA K2 (by decide)
      (fun ys => stable_local hSt2) (JAmk _ _ _ rfl trivial) ?_ ?_
    · intro i v ys nw oI C oC D mC h8 tk8 E' hi zq1 JJ
      refine JAel _ _ _ _ ?_ JJ
      intro zq2 hys hoC F8 N8 hoff hne zc3
      clear JJ zc3
      (show (let zG : Prop := _; zG); intro zG; subst zq2; obtain ⟨tv, rfl⟩ := zq1; (try k_unmd); k_unfold)
      have ho := hoff.mem
      have ei : (0 : Int) + (i : Int) = ((i : Nat) : Int) := by wtm_at "lo"
      rw [ei]
      show (let zG : Prop := _; zG)
      intro zG
      obtain ⟨x9, hx9, hxa⟩ := five_get (a := number) (b := moved) (c := wanted) (d := whole) hi
      have hTb : [number, moved, wanted, whole, 0].getD i 0 < 2 ^ 120 := five_lt (Nat.lt_of_le_of_lt hn.2 (by decide)) (Nat.lt_of_le_of_lt hm.2 (by decide)) (Nat.lt_of_le_of_lt hw.2 (by decide)) hwb hi
      obtain ⟨tx9, htx⟩ := int_get htv hx9
      (try k_unmd); k_unfold
      refine turn_name (by decide) rfl F8 hoC N8 hne.1 (fun p hp => ?_) ?_
      · rcases List.mem_cons.mp hp with rfl | hp
        · exact Ne.symm hne.2.2
        · exact (ho p hp).2.1
      intro h9 oC4 mC4 F9 hoC4 hx4 N9
      have hgx : [((number : Nat) : Int), ((moved : Nat) : Int), -((wanted : Nat) : Int), ((whole : Nat) : Int), 0].getD (((i : Nat) : Int)).toNat 0 = x9 := by
        rw [Int.toNat_natCast, List.getD_eq_getElem?_getD, hx9]; rfl
      show (let zG : Prop := _; zG)
      intro zG
      obtain ⟨p12, hp12, hp12b⟩ := pow12 hi
      (try k_unmd); k_unfold
      k_steps
      refine stop_in ?_
      rw [hgx]
      rename Fr _ _ _ _ => FE
      rename News _ _ _ _ => NE
      refine c_word x9 ([number, moved, wanted, whole, 0].getD i 0) _ K' FE X' NE T' ?r4 ?r5 ?r1 ?r2 hxa hTb ?_
      case r4 => exact rfl
      case r5 => exact rfl
      case r1 => k_room
      case r2 => k_units
      intro nx h10 tk10 t10 F10 N10
      replace N10 := news_sub N10 fun x hx => List.mem_append_right nx hx
      clear FE NE
      k_steps
      refine stop_in ?_
      refine PyProof.Rows.pow_int_small (by wtm_at "inc") (by wtm_at "inc") (by decide) ?_
      rw [Int.toNat_natCast, show ((12 : Int)) ^ i = ((p12 : Nat) : Int) from by rw [← hp12, Int.natCast_pow]; rfl]
      k_steps
      refine stop_in ?_
      rename Fr _ _ _ _ => FE
      rename News _ _ _ _ => NE
      rw [show Int.fdiv ((draw : Nat) : Int) ((p12 : Nat) : Int) = ((draw / p12 : Nat) : Int) from by rw [Int.fdiv_eq_ediv_of_nonneg _ (by wtm_at "inc")]; rfl]
      refine c_spelled (word ([number, moved, wanted, whole, 0].getD i 0)) (draw / p12) _ _ K' FE X' NE T' ?r4 ?r5 ?r1 ?r2 ?r3 ?_
      case r4 => exact rfl
      case r5 => exact rfl
      case r1 => k_room
      case r2 => k_units
      case r3 => exact letters0_short hTb
      intro nx h11 tk11 t11 F11 N11
      replace N11 := news_sub N11 fun x hx => List.mem_append_right nx hx
      clear FE NE
      k_steps
      rename News _ _ _ _ => N12
      rename Fr _ _ _ _ => F12
      refine turnEnd_mk F12 hoC4 N12 hoff (JAmk _ _ _ rfl ?_)
      rw [pageL_snoc]
      rw [hp12]
      exact hys.snoc
    · intro D C h8 tk8 m8 ys nw F8 N8 ob1 hn8 hC0 hD0 hCL hDL hCD offC JJ
      refine JAel _ _ _ _ ?_ JJ
      intro zq4 hys h9 hs9
      clear JJ
      (show (let zG : Prop := _; zG); intro zG; subst zq4; (try k_unmd); k_unfold)
      obtain ⟨F9, N9⟩ := fin_E' F8 N8 hC0 hCL hCD offC hs9
      try k_fold
      k_steps
      refine stop_in ?_
      have hj : Txt.join (Str.ofString "") ((pageL [number, moved, wanted, whole, 0] draw 5).map S) = S page := by
        unfold Txt.join
        rw [PySem.StrLaws.glued_eq_join, show Str.ofString "" = Str.empty from rfl, join_S, hpg]
      refine join_list (D := D) (items := ys.toArray) (ys := (pageL [number, moved, wanted, whole, 0] draw 5).map S) ⟨_, (N9 _ (.head _)).1, rfl, _, rfl⟩ (by simpa using strs_lib hys) ?_ (fun tj kj => ?_)
      · rw [sumS, ← hpg]
        show _ + _ * 0 ≤ 16777216
        wtm_at "lo"
      rw [hj]
      k_steps
      refine stop_in ?_
      rename Fr _ _ _ _ => FS
      rename News _ _ _ _ => NS
      have NT := news_sub NS (news' := (219, tabObj #[]) :: (pr, tup pv) :: (S0 + 1 + 1 + 1 + 1, c4) :: (S0 + 1 + 1 + 1, cTold) :: (S0 + 1 + 1, cPr) :: (S0 + 1, cDraw) :: (172, tabObj #[]) :: nx1) (by wtm_at "msub")
      clear NS
      have big219 : @LT.lt Nat _ 219 S0 := by wtm_at "lo"
      refine c_stream page _ K' FS X' NT (fa_cons (by k_ne) (fa_cons (Nat.ne_of_gt (Nat.lt_succ_of_lt (Nat.lt_succ_of_lt (Nat.lt_succ_of_lt (Nat.lt_succ_of_lt (big219)))))) (fa_cons (Nat.ne_of_gt (Nat.lt_succ_of_lt (Nat.lt_succ_of_lt (Nat.lt_succ_of_lt (big219))))) (fa_cons (Nat.ne_of_gt (Nat.lt_succ_of_lt (Nat.lt_succ_of_lt (big219)))) (fa_cons (Nat.ne_of_gt (Nat.lt_succ_of_lt (big219))) (fa_cons (show (172 : Nat) ≠ 219 by decide) z6)))))) T' ?r4 ?r5 ?r1 ?r2 ?_
      case r4 => exact rfl
      case r5 => exact rfl
      case r1 => k_room
      case r2 => k_units
      intro BX dBX pbB fR cT cP pl oT oP b0 b1 b2 b3 b4 b5 b6 ti news1 h10 tk10 F10 N10 hs1 hRd hoT' hoP hcT hcP hdB hBX hpl1 hn1' hps9x
      obtain ⟨ps9, hps9⟩ := hps9x
      clear FS NT
      k_steps
      refine stop_in ?_
      rename Fr _ _ _ _ => FS
      rename News _ _ _ _ => NS
      show wpAny _ _ (call (.ref 83) [.ref BX]) _ _ _
      refine c_lex BX K' FS X' NS T' ?r4 ?r5 ?r1 ?r2 ?_
      case r4 => exact rfl
      case r5 => exact rfl
      case r1 => k_room
      case r2 => k_units
      intro LX dLX pb x0' x1 x2 x3 x4 x5 h11 tk11 epb el F11 N11 hdLX hLX hpb
      have hLXpl : pl < dLX := hdLX _ (.tail _ (.tail _ (.head _)))
      have h172c : 172 < cT := hcT (172, tabObj #[]) (.tail _ (.tail _ (.tail _ (.tail _ (.tail _ (.head _))))))
      have hS4c : S0 + 1 + 1 + 1 + 1 < cT := hcT (S0 + 1 + 1 + 1 + 1, c4) (.tail _ (.head _))
      have hprc : pr < cT := hcT (pr, tup pv) (.head _)
      have hInc : Inc [172, S0 + 1 + 1, S0 + 1 + 1 + 1 + 1, cT, cP, dBX, BX, pl, dLX, LX, pb] := ⟨Nat.lt_trans (by decide : 172 < 219) (Nat.lt_succ_of_lt (Nat.lt_succ_of_lt big219)), Nat.lt_succ_of_lt (Nat.lt_succ_self _), hS4c, hcP, hdB, hBX, hpl1, hLXpl, hLX, hpb, trivial⟩
      obtain ⟨news2, hnews2⟩ : ∃ r : List (Addr × Obj), r = news1.filter (fun x => x.1 != 172 && x.1 != S0 + 1 + 1 + 1 + 1 && x.1 != S0 + 1 + 1) := ⟨_, rfl⟩
      have hm2 : ∀ x ∈ news1, x.1 ≠ 172 → x.1 ≠ S0 + 1 + 1 + 1 + 1 → x.1 ≠ S0 + 1 + 1 → x ∈ news2 := fun x hx h1 h2 h3 => by rw [hnews2]; exact List.mem_filter.mpr ⟨hx, by simp [h1, h2, h3]⟩
      have hm3 : ∀ x ∈ news2, x ∈ news1 ∧ x.1 ≠ 172 ∧ x.1 ≠ S0 + 1 + 1 + 1 + 1 ∧ x.1 ≠ S0 + 1 + 1 := fun x hx => by
        rw [hnews2] at hx
        obtain ⟨h1, h2⟩ := List.mem_filter.mp hx
        simp only [Bool.and_eq_true, bne_iff_ne, ne_eq] at h2
        exact ⟨h1, h2.1.1, h2.1.2, h2.2⟩
      have hm4 : ∀ x ∈ news2, x.1 ≠ pl ∧ x.1 ≠ dLX ∧ x.1 ≠ pb ∧ x.1 ≠ 172 ∧ x.1 ≠ S0 + 1 + 1 + 1 + 1 := fun x hx => by
        obtain ⟨h1, h2, h3, h4⟩ := hm3 x hx
        have h5 : @LT.lt Nat _ x.1 dLX := hdLX x (.tail _ (.tail _ (.tail _ (.tail _ (.tail _ h1)))))
        have h6 : x.1 ≠ pl := by
          rcases hn1' x h1 with h | h | h
          · have := hcT x h
            exact Nat.ne_of_lt (Nat.lt_trans this (hInc.lt (i := 3) (j := 7) (by decide)))
          · exact h.2
          · rw [h]; k_ne
        exact ⟨h6, Nat.ne_of_lt h5, Nat.ne_of_lt (Nat.lt_trans h5 (hInc.lt (i := 8) (j := 10) (by decide))), h2, h3⟩
      have hR2 : RdFn (hd.heap_39 w.params) news2 fR cT cP := hRd.pick fun x hx hd =>
        hm2 x hx (rd_ne N11 (lift_8 hx) (lift_8 (hs1 (172, tabObj #[]) (by wtm_at "mm"))) hd (.inr rfl)) (rd_ne N11 (lift_8 hx) (lift_8 (hs1 (S0 + 1 + 1 + 1 + 1, c4) (by wtm_at "mm"))) hd (.inl ⟨_, d4⟩)) (rd_ne N11 (lift_8 hx) (lift_8 (hs1 (S0 + 1 + 1, cPr) (by wtm_at "mm"))) hd (.inl ⟨_, dPr⟩))
      have N12 := news_sub N11 (news' := (172, tabObj #[]) :: (dLX, dictOf (lexL w (1) BX pb x0' x1 x2 x3 x4 x5) el) :: (pl, W.listOf [Value.int 0 ti].toArray 0) :: (pb, W.listOf ([] : List Value).toArray epb) :: (LX, instObj 83 dLX) :: (BX, instObj 83 dBX) :: (dBX, dictOf (benL w pbB fR b0 b1 b2 b3 b4 b5 b6) 5) :: (cT, oT) :: (cP, oP) :: (S0 + 1 + 1 + 1 + 1, c4) :: (S0 + 1 + 1, cPr) :: news2) (sub_cons (lift_8 (hs1 _ (by wtm_at "mm"))) (sub_cons (by wtm_at "mm") (sub_cons (by wtm_at "mm") (sub_cons (by wtm_at "mm") (sub_cons (by wtm_at "mm") (sub_cons (by wtm_at "mm") (sub_cons (by wtm_at "mm") (sub_cons (by wtm_at "mm") (sub_cons (by wtm_at "mm") (sub_cons (lift_8 (hs1 _ (by wtm_at "mm"))) (sub_cons (lift_8 (hs1 _ (by wtm_at "mm"))) fun x h => lift_8 (hm3 x h).1)))))))))))
      have y9 : ∀ x ∈ news2, x.1 ≠ S0 + 1 + 1 + 1 + 1 := fun x hx => (hm4 x hx).2.2.2.2
      clear FS NS N11
      k_steps
      refine stop_in ?_
      rename Obj => cLex
      rename (_ = Data.cell _) => dLex
      rename Fr _ _ _ _ => FS
      rename News _ _ _ _ => NS
      show (let zG : Prop := _; zG)
      intro zG
      obtain ⟨nws, hnws⟩ : ∃ r : List (Addr × Obj), r = (LX, instObj 83 dLX) :: (BX, instObj 83 dBX) :: (dBX, dictOf (benL w pbB fR b0 b1 b2 b3 b4 b5 b6) 5) :: (cT, oT) :: (cP, oP) :: (S0 + 1 + 1 + 1 + 1, cLex) :: (S0 + 1 + 1, cPr) :: news2 := ⟨_, rfl⟩
      have hmN : ∀ {x}, x ∈ news2 → x ∈ nws := fun h => by rw [hnws]; exact .tail _ (.tail _ (.tail _ (.tail _ (.tail _ (.tail _ (.tail _ h))))))
      have hoN : ∀ x ∈ nws, x.1 ≠ pl ∧ x.1 ≠ dLX ∧ x.1 ≠ pb ∧ x.1 ≠ 172 := by
        rw [hnws]
        exact fa_cons ⟨(hInc.ne' (i := 7) (j := 9) (by decide)), (hInc.ne' (i := 8) (j := 9) (by decide)), (hInc.ne (i := 9) (j := 10) (by decide)), (hInc.ne' (i := 0) (j := 9) (by decide))⟩ (fa_cons ⟨(hInc.ne (i := 6) (j := 7) (by decide)), (hInc.ne (i := 6) (j := 8) (by decide)), (hInc.ne (i := 6) (j := 10) (by decide)), (hInc.ne' (i := 0) (j := 6) (by decide))⟩ (fa_cons ⟨(hInc.ne (i := 5) (j := 7) (by decide)), (hInc.ne (i := 5) (j := 8) (by decide)), (hInc.ne (i := 5) (j := 10) (by decide)), (hInc.ne' (i := 0) (j := 5) (by decide))⟩ (fa_cons ⟨(hInc.ne (i := 3) (j := 7) (by decide)), (hInc.ne (i := 3) (j := 8) (by decide)), (hInc.ne (i := 3) (j := 10) (by decide)), (hInc.ne' (i := 0) (j := 3) (by decide))⟩ (fa_cons ⟨(hInc.ne (i := 4) (j := 7) (by decide)), (hInc.ne (i := 4) (j := 8) (by decide)), (hInc.ne (i := 4) (j := 10) (by decide)), (hInc.ne' (i := 0) (j := 4) (by decide))⟩ (fa_cons ⟨(hInc.ne (i := 2) (j := 7) (by decide)), (hInc.ne (i := 2) (j := 8) (by decide)), (hInc.ne (i := 2) (j := 10) (by decide)), (hInc.ne' (i := 0) (j := 2) (by decide))⟩ (fa_cons ⟨(hInc.ne (i := 1) (j := 7) (by decide)), (hInc.ne (i := 1) (j := 8) (by decide)), (hInc.ne (i := 1) (j := 10) (by decide)), (hInc.ne' (i := 0) (j := 1) (by decide))⟩ (fun x h => ⟨(hm4 x h).1, (hm4 x h).2.1, (hm4 x h).2.2.1, (hm4 x h).2.2.2.1⟩)))))))
      obtain ⟨P, hP⟩ : ∃ P : Nat → Nat, P = fun i => [0, k0, k0 + k1, k0 + k1 + k2].getD i 0 := ⟨_, rfl⟩
      have hP0 : P 0 = 0 := by rw [hP]; rfl
      have hP3 : P 3 = k0 + k1 + k2 := by rw [hP]; rfl
      have hGr : ∀ i, i < 3 → ∃ kk doc tok nf inf xs, GrowOk page (P i) kk doc tok nf inf xs ∧ P (i + 1) = P i + kk ∧ [first, second, third].take (i + 1) = [first, second, third].take i ++ [doc] := fun i hi => by
        have := lt3 hi
        rcases this with h | h | h <;> subst h
        · exact ⟨k0, first, tok0, nf0, inf0, xs0, by rw [hP]; exact g0, by rw [hP]; show k0 = 0 + k0; wtm_at "lo", rfl⟩
        · exact ⟨k1, second, tok1, nf1, inf1, xs1, by rw [hP]; exact g1, by rw [hP]; rfl, rfl⟩
        · exact ⟨k2, third, tok2, nf2, inf2, xs2, by rw [hP]; exact g2, by rw [hP]; rfl, rfl⟩
      (try k_unmd); k_unfold
      refine my_Assign_ListComp' FS (GB := fun g => BareTo s₁.gens g) (cl := _) (by with_unfolding_all rfl) (by with_unfolding_all rfl) (by decide) (by rfl) (by decide) ?_
      k_steps
      rename Fr _ _ _ _ => FR
      rename News _ _ _ _ => NR
      rename (IsRange _ _ _ _ _ _ _ _) => hr
      have NR2 := news_sub NR (news' := (172, tabObj #[]) :: (dLX, dictOf (lexL w (lnAt page (P 0)) BX pb x0' x1 x2 x3 x4 x5) el) :: (pl, W.listOf [Value.int ((P 0 : Nat) : Int) ti].toArray 0) :: (pb, W.listOf ([] : List Value).toArray epb) :: nws) fun x hx => by
        rw [hP0, hnws] at hx
        exact hx
      refine iter_rangeX (n := 3) rfl hr (by decide) (by decide) FR NR2 ?_
      intro I3 h13 St3 hSt3 hStX K3
      clear hr NR NR2
      (try dsimp only at K3); (try dsimp only)
      refine (fun (zk : ∀ (JB : Nat → List Value → List (Addr × Obj) → Prop), (∀ (i : Nat) (ys : List Value) (nw : List (Addr × Obj)) (tb : Array Value) (el e epb : Nat) (x0' t' : Tok) (news3 : List (Addr × Obj)), (nw = (172, tabObj tb) :: (dLX, dictOf (lexL w (lnAt page (P i)) BX pb x0' x1 x2 x3 x4 x5) el) :: (pl, W.listOf [Value.int ((P i : Nat) : Int) t'].toArray e) :: (pb, W.listOf ([] : List Value).toArray epb) :: news3) → (TabOk ⟨188, 71, 188, 96⟩ (Str.ofString "C14NWriterTarget._start" ++ Str.ofString ".<locals>." ++ Str.ofString "<lambda>") tb news3) → ((∀ x ∈ nws, x ∈ news3)) → ((∀ x ∈ news3, x.1 ≠ pl ∧ x.1 ≠ dLX ∧ x.1 ≠ pb ∧ x.1 ≠ 172)) → (SgsAre ys ([first, second, third].take i)) → JB i ys nw) → (∀ (i : Nat) (ys : List Value) (nw : List (Addr × Obj)) (zG : Prop), (∀ (tb : Array Value) (el e epb : Nat) (x0' t' : Tok) (news3 : List (Addr × Obj)), (nw = (172, tabObj tb) :: (dLX, dictOf (lexL w (lnAt page (P i)) BX pb x0' x1 x2 x3 x4 x5) el) :: (pl, W.listOf [Value.int ((P i : Nat) : Int) t'].toArray e) :: (pb, W.listOf ([] : List Value).toArray epb) :: news3) → (TabOk ⟨188, 71, 188, 96⟩ (Str.ofString "C14NWriterTarget._start" ++ Str.ofString ".<locals>." ++ Str.ofString "<lambda>") tb news3) → ((∀ x ∈ nws, x ∈ news3)) → ((∀ x ∈ news3, x.1 ≠ pl ∧ x.1 ≠ dLX ∧ x.1 ≠ pb ∧ x.1 ≠ 172)) → (SgsAre ys ([first, second, third].take i)) → zG) → JB i ys nw → zG) → _) => zk (fun i ys nw => ∀ zG : Prop, (∀ (tb : Array Value) (el e epb : Nat) (x0' t' : Tok) (news3 : List (Addr × Obj)), (nw = (172, tabObj tb) :: (dLX, dictOf (lexL w (lnAt page (P i)) BX pb x0' x1 x2 x3 x4 x5) el) :: (pl, W.listOf [Value.int ((P i : Nat) : Int) t'].toArray e) :: (pb, W.listOf ([] : List Value).toArray epb) :: news3) → (TabOk ⟨188, 71, 188, 96⟩ (Str.ofString "C14NWriterTarget._start" ++ Str.ofString ".<locals>." ++ Str.ofString "<lambda>") tb news3) → ((∀ x ∈ nws, x ∈ news3)) → ((∀ x ∈ news3, x.1 ≠ pl ∧ x.1 ≠ dLX ∧ x.1 ≠ pb ∧ x.1 ≠ 172)) → (SgsAre ys ([first, second, third].take i)) → zG) → zG) (fun i ys nw tb el e epb x0' t' news3 zh0 zh1 zh2 zh3 zh4 _ zk => zk tb el e epb x0' t' news3 zh0 zh1 zh2 zh3 zh4) (fun i ys nw zG zk zh => zh zG zk)) ?_; intro JB JBmk JBel
      refine compAt_of JB (BareTo.refl _) K3 (by decide)
        (fun ys => stable_local hSt3) (JBmk _ _ _ _ _ _ _ _ _ nws rfl (.inl rfl) (fun x hx => hx) hoN trivial) ?_ ?_
      · intro i v ys nw oI C oC D mC h14 tk14 gg E' hbg hi zq5 JJ
        refine JBel _ _ _ _ ?_ JJ
        intro tb el e epb x0' t' news3 zq6 htb hsn hon hys hoC F14 N14 hoff hne hst
        clear JJ
        (show (let zG : Prop := _; zG); intro zG; subst zq6; obtain ⟨tv, rfl⟩ := zq5; (try k_unmd); k_unfold)
        show (let zG : Prop := _; zG)
        intro zG
        obtain ⟨kk, doc, tok, nf, inf, xs, G, hPn, hdoc⟩ := hGr i hi
        have ho := hoff.mem
        (try k_unmd); k_unfold
        refine turn_name (by decide) rfl F14 hoC N14 hne.1 (fun p hp => ?_) ?_
        · rcases List.mem_cons.mp hp with rfl | hp
          · exact Ne.symm hne.2.2
          · exact (ho p hp).2.1
        intro h15 oC5 mC5 F15 hoC5 hx5 N15
        have hcl1 : (S0 + 1 + 1 + 1 + 1, cLex) ∈ news3 := hsn _ (by rw [hnws]; wtm_at "mm")
        have hcl2 : (S0 + 1 + 1, cPr) ∈ news3 := hsn _ (by rw [hnws]; wtm_at "mm")
        replace N15 := news_sub N15 (news' := (I3, oI) :: (C, oC5) :: (D, lst ys) :: (S0 + 1 + 1 + 1 + 1, cLex) :: (S0 + 1 + 1, cPr) :: (172, tabObj tb) :: (dLX, dictOf (lexL w (lnAt page (P i)) BX pb x0' x1 x2 x3 x4 x5) el) :: (pl, W.listOf [Value.int ((P i : Nat) : Int) t'].toArray e) :: (pb, W.listOf ([] : List Value).toArray epb) :: news3) (by wtm_at "msub")
        k_steps
        refine stop_in ?_
        rename Fr _ _ _ _ => FG
        rename News _ _ _ _ => NG
        have NG2 := news_sub NG (news' := (172, tabObj tb) :: (dLX, dictOf (lexL w (lnAt page (P i)) BX pb x0' x1 x2 x3 x4 x5) el) :: (pl, W.listOf [Value.int ((P i : Nat) : Int) t'].toArray e) :: (pb, W.listOf ([] : List Value).toArray epb) :: (I3, oI) :: (C, oC5) :: (D, lst ys) :: news3) (by wtm_at "msub")
        have hG : ∀ {x}, x ∈ nws → x ∈ (I3, oI) :: (C, oC5) :: (D, lst ys) :: news3 := fun h => .tail _ (.tail _ (.tail _ (hsn _ h)))
        have e172 := ho (172, tabObj tb) (.head _)
        have edLX := ho _ (.tail _ (.head _))
        have epl := ho _ (.tail _ (.tail _ (.head _)))
        have epb' := ho _ (.tail _ (.tail _ (.tail _ (.head _))))
        have hoG : ∀ x ∈ (I3, oI) :: (C, oC5) :: (D, lst ys) :: news3, x.1 ≠ pl ∧ x.1 ≠ dLX ∧ x.1 ≠ pb ∧ x.1 ≠ 172 := fa_cons ⟨Ne.symm epl.1, Ne.symm edLX.1, Ne.symm epb'.1, Ne.symm e172.1⟩ (fa_cons ⟨Ne.symm epl.2.1, Ne.symm edLX.2.1, Ne.symm epb'.2.1, Ne.symm e172.2.1⟩ (fa_cons ⟨Ne.symm epl.2.2, Ne.symm edLX.2.2, Ne.symm epb'.2.2, Ne.symm e172.2.2⟩ hon))
        clear NG
        refine c_grown page _ _ LX dLX BX dBX pbB pb fR cT cP pl (P i) e el epb oT oP b0 b1 b2 b3 b4 b5 b6 x0' x1 x2 x3 x4 x5 tok kk pr pv tb nf inf xs K' FG X' NG2 (fun x hx => (hoG x hx).1) (fun x hx => (hoG x hx).2.1) (hInc.ne' (i := 7) (j := 8) (by decide)) (fun x hx => (hoG x hx).2.2.1) (fun x hx => (hoG x hx).2.2.2) ⟨(hInc.ne' (i := 8) (j := 10) (by decide)), (hInc.ne' (i := 7) (j := 10) (by decide)), (hInc.lt (i := 0) (j := 8) (by decide)), (hInc.lt (i := 0) (j := 7) (by decide)), (hInc.lt (i := 0) (j := 10) (by decide))⟩ T' ?r4 ?r5 ?r1 ?r2 (hG ?m1) (hG ?m2) (hG ?m3) (hG ?m4) (hG ?m5) hoT' hoP (hR2.mono fun x hx => hG (hmN hx)) (hG (hmN ?m6)) hpv (htb.mono fun x hx => .tail _ (.tail _ (.tail _ hx))) hpl G.pb G.tk G.gr G.to G.bd G.ok ?_
        case r4 => exact rfl
        case r5 => exact rfl
        case r1 => k_room
        case r2 => k_units
        case m1 => rw [hnws]; wtm_at "mm"
        case m2 => rw [hnws]; wtm_at "mm"
        case m3 => rw [hnws]; wtm_at "mm"
        case m4 => rw [hnws]; wtm_at "mm"
        case m5 => rw [hnws]; wtm_at "mm"
        case m6 => exact hm2 _ (hs1 (pr, tup pv) (by simp)) (by k_ne) (by k_ne) (by k_ne)
        intro h16 tk16 gg16 t16 e16 ts16 x0' el16 epb16 tb16 news4 hbg16 F16 hs4 hn4 htb4 N16
        clear FG NG2
        rw [G.eq]
        rw [← hPn] at N16
        k_steps
        rename News _ _ _ _ => NT
        rename Fr _ _ _ _ => FT
        have hI3 := (NT _ (.tail _ (.tail _ (.tail _ (.tail _ (hs4 (I3, oI) (.head _))))))).1
        have hC3 := (NT _ (.tail _ (.tail _ (.tail _ (.tail _ (hs4 (C, oC5) (.tail _ (.head _)))))))).1
        have hD3 := (NT _ (.tail _ (.tail _ (.tail _ (.tail _ (hs4 (D, lst ys) (.tail _ (.tail _ (.head _))))))))).1
        have hnoI : NoStr1 oI := by
          show (let zG : Prop := _; zG)
          intro zG
          obtain ⟨o9, ho9, hn9⟩ := hStX _ _ hst
          have e9 : oI = o9 := Option.some.inj ((N14 _ (.head _)).1.symm.trans ho9)
          (try k_unmd); k_unfold
          rw [e9]; exact hn9
        refine turnEnd_mkG (nw := (172, tabObj tb16) :: (dLX, dictOf (lexL w (lnAt page (P (i + 1))) BX pb x0' x1 x2 x3 x4 x5) el16) :: (pl, W.listOf [Value.int ((P (i + 1) : Nat) : Int) t16].toArray e16) :: (pb, W.listOf ([] : List Value).toArray epb16) :: (news4.filter fun x => x.1 != I3 && x.1 != C && x.1 != D)) (hbg.trans hbg16) FT hoC5 (news_sub NT (fun x hx => ?g1)) (off3_of (fun x hx => ?g2)) (JBmk _ _ _ tb16 el16 e16 epb16 _ t16 _ rfl (htb4.filtP _ (fun x hx hb => ?g3)) (fun x hx => ?g4) (fun x hx => ?g5) ?g6)
        case g1 =>
          exact sub_cons (lift_4 (hs4 _ mem_0)) (sub_cons (lift_4 (hs4 _ mem_1)) (sub_cons (lift_4 (hs4 _ mem_2)) (sub_cons mem_0 (sub_cons mem_1 (sub_cons mem_2 (sub_cons mem_3 fun x h => lift_4 (List.mem_filter.mp h).1)))))) x hx
        case g2 =>
          refine fa_cons (P := fun x => x.1 ≠ _ ∧ x.1 ≠ _ ∧ x.1 ≠ _) e172 (fa_cons edLX (fa_cons epl (fa_cons epb' fun x h => ?_))) x hx
          have h2 := (List.mem_filter.mp h).2
          simp only [Bool.and_eq_true, bne_iff_ne, ne_eq] at h2
          exact ⟨h2.1.1, h2.1.2, h2.2⟩
        case g3 =>
          have hx9 := (NT _ (.tail _ (.tail _ (.tail _ (.tail _ hx))))).1
          have hb2 : x.1 = I3 ∨ x.1 = C ∨ x.1 = D := by
            simp only [Bool.and_eq_false_iff, bne_eq_false_iff_eq] at hb
            rcases hb with (h | h) | h
            · exact .inl h
            · exact .inr (.inl h)
            · exact .inr (.inr h)
          rcases hb2 with h | h | h
          · rw [h, hI3] at hx9; rw [← Option.some.inj hx9]; exact hnoI
          · rw [h, hC3] at hx9; rw [← Option.some.inj hx9]
            show (let zG : Prop := _; zG)
            intro zG
            obtain ⟨es, ep, hd9, _⟩ := hoC5
            (try k_unmd); k_unfold
            intro vs q t hq
            rw [hd9] at hq; cases hq
          · rw [h, hD3] at hx9; rw [← Option.some.inj hx9]
            intro vs q t hq
            cases hq
        case g4 =>
          have h1 := hsn x hx
          have h2 := ho x (.tail _ (.tail _ (.tail _ (.tail _ h1))))
          exact List.mem_filter.mpr ⟨hs4 _ (.tail _ (.tail _ (.tail _ h1))), by simp [h2.1, h2.2.1, h2.2.2]⟩
        case g5 =>
          obtain ⟨h1, h2⟩ := List.mem_filter.mp hx
          rcases hn4 x h1 with h | h
          · exact hoG x h
          · exact ⟨h.2.1, h.2.2.1, h.2.2.2, Nat.ne_of_gt h.1⟩
        case g6 =>
          rw [hdoc]
          exact hys.snoc
      · intro D C h14 tk14 gg m14 ys nw hbr1 F14 N14 ob1 hn14 hC0 hD0 hCL hDL hCD offC JJ
        refine JBel _ _ _ _ ?_ JJ
        intro tb el e epb x0' t' news3 zq7 htb hsn hon hys
        clear JJ
        (show (let zG : Prop := _; zG); intro zG; subst zq7; (try k_unmd); k_unfold)
        refine' fin_A2 (s := ⟨_, _, _, _, _⟩) ?fu1 ?fu2 ?fu3 F14 N14 hn14 hCL ?_
        case fu1 => rfl
        case fu2 => rfl
        case fu3 => rfl
        intro h15 tk15 F15 N15 hn15
        refine ⟨⟨_, hn15⟩, fun h16 hs16 => ?_⟩
        obtain ⟨F16, N16⟩ := fin_E' F15 N15 hC0 hCL hCD offC hs16
        clear F14 N14 F15 N15
        k_steps
        refine stop_in ?_
        rename Fr _ _ _ _ => FU
        rename News _ _ _ _ => NU
        have hoD : ∀ x ∈ (172, tabObj tb) :: (dLX, dictOf (lexL w (lnAt page (P 3)) BX pb x0' x1 x2 x3 x4 x5) el) :: (pl, W.listOf [Value.int ((P 3 : Nat) : Int) t'].toArray e) :: (pb, W.listOf ([] : List Value).toArray epb) :: news3, x.1 ≠ D := fun x hx => off1_mem ob1 x hx
        show (let zG : Prop := _; zG)
        intro zG
        obtain ⟨P2, hP2⟩ : ∃ P2 : Nat → Nat, P2 = fun i => [k0 + k1 + k2, k0 + k1 + k2 + k3, k0 + k1 + k2 + k3 + k4, k0 + k1 + k2 + k3 + k4 + k5].getD i 0 := ⟨_, rfl⟩
        have hP20 : P2 0 = P 3 := by rw [hP2, hP3]; rfl
        have hGt : ∀ i, i < 3 → ∃ kk tok, tokA (page.drop (P2 i)) = some (tok, kk) ∧ P2 (i + 1) = P2 i + kk ∧ P2 i ≤ 1010 ∧ [letters whole, [], []].take (i + 1) = [letters whole, [], []].take i ++ [tok] := fun i hi => by
          have := lt3 hi
          rcases this with h | h | h <;> subst h
          · exact ⟨k3, letters whole, by rw [hP2]; exact t3, by rw [hP2]; rfl, by rw [hP2]; show k0 + k1 + k2 ≤ 1010; wtm_at "lo", rfl⟩
          · exact ⟨k4, [], by rw [hP2]; exact t4, by rw [hP2]; rfl, by rw [hP2]; show k0 + k1 + k2 + k3 ≤ 1010; wtm_at "lo", rfl⟩
          · exact ⟨k5, [], by rw [hP2]; exact t5, by rw [hP2]; rfl, by rw [hP2]; show k0 + k1 + k2 + k3 + k4 ≤ 1010; wtm_at "lo", rfl⟩
        obtain ⟨newsT, hnT⟩ : ∃ r : List (Addr × Obj), r = (D, lst ys) :: (172, tabObj tb) :: news3 := ⟨_, rfl⟩
        have hoT : ∀ x ∈ newsT, x.1 ≠ pl ∧ x.1 ≠ dLX ∧ x.1 ≠ pb := fun x hx => by
          rw [hnT] at hx
          rcases List.mem_cons.mp hx with rfl | hx
          · exact ⟨Ne.symm (hoD _ (.tail _ (.tail _ (.head _)))), Ne.symm (hoD _ (.tail _ (.head _))), Ne.symm (hoD _ (.tail _ (.tail _ (.tail _ (.head _)))))⟩
          rcases List.mem_cons.mp hx with rfl | hx
          · exact ⟨by k_ne, by k_ne, by k_ne⟩
          · have := hon x hx
            exact ⟨this.1, this.2.1, this.2.2.1⟩
        have hmT : ∀ {x}, x ∈ nws → x ∈ newsT := fun h => by rw [hnT]; exact .tail _ (.tail _ (hsn _ h))
        (try k_unmd); k_unfold
        refine' my_ListComp' FU (GB := fun g => BareTo s₁.gens g) (cl := _) ?qd (by decide) (by rfl) (by decide) ?_
        case qd => with_unfolding_all rfl
        k_steps
        rename Fr _ _ _ _ => FR
        rename News _ _ _ _ => NR
        rename (IsRange _ _ _ _ _ _ _ _) => hr
        have NR2 := news_sub NR (news' := (pb, W.listOf ([] : List Value).toArray epb) :: (dLX, dictOf (lexL w (lnAt page (P2 0)) BX pb x0' x1 x2 x3 x4 x5) el) :: (pl, W.listOf [Value.int ((P2 0 : Nat) : Int) t'].toArray e) :: newsT) (by rw [hP20, hnT]; wtm_at "msub")
        refine iter_range (n := 3) rfl hr (by decide) (by decide) FR NR2 ?_
        intro I4 h17 St4 hSt4 K4
        clear hr NR NR2
        (try dsimp only at K4); (try dsimp only)
        refine (fun (zk : ∀ (JC : Nat → List Value → List (Addr × Obj) → Prop), (∀ (i : Nat) (ys : List Value) (nw : List (Addr × Obj)) (el e epb : Nat) (x0' t' : Tok), (nw = (pb, W.listOf ([] : List Value).toArray epb) :: (dLX, dictOf (lexL w (lnAt page (P2 i)) BX pb x0' x1 x2 x3 x4 x5) el) :: (pl, W.listOf [Value.int ((P2 i : Nat) : Int) t'].toArray e) :: newsT) → (SgsAre ys ([letters whole, [], []].take i)) → JC i ys nw) → (∀ (i : Nat) (ys : List Value) (nw : List (Addr × Obj)) (zG : Prop), (∀ (el e epb : Nat) (x0' t' : Tok), (nw = (pb, W.listOf ([] : List Value).toArray epb) :: (dLX, dictOf (lexL w (lnAt page (P2 i)) BX pb x0' x1 x2 x3 x4 x5) el) :: (pl, W.listOf [Value.int ((P2 i : Nat) : Int) t'].toArray e) :: newsT) → (SgsAre ys ([letters whole, [], []].take i)) → zG) → JC i ys nw → zG) → _) => zk (fun i ys nw => ∀ zG : Prop, (∀ (el e epb : Nat) (x0' t' : Tok), (nw = (pb, W.listOf ([] : List Value).toArray epb) :: (dLX, dictOf (lexL w (lnAt page (P2 i)) BX pb x0' x1 x2 x3 x4 x5) el) :: (pl, W.listOf [Value.int ((P2 i : Nat) : Int) t'].toArray e) :: newsT) → (SgsAre ys ([letters whole, [], []].take i)) → zG) → zG) (fun i ys nw el e epb x0' t' zh0 zh1 _ zk => zk el e epb x0' t' zh0 zh1) (fun i ys nw zG zk zh => zh zG zk)) ?_; intro JC JCmk JCel
        refine compAt_of JC hbr1 K4 (by decide)
          (fun ys => stable_local hSt4) (JCmk _ _ _ _ _ _ _ _ rfl trivial) ?_ ?_
        · intro i v ys2 nw oI C2 oC D2 mC h18 tk18 gg E' hbg hi zq8 JJ
          refine JCel _ _ _ _ ?_ JJ
          intro el e epb x0' t' zq9 hys2 hoC F18 N18 hoff hne zc10
          clear JJ zc10
          (show (let zG : Prop := _; zG); intro zG; subst zq9; obtain ⟨tv, rfl⟩ := zq8; (try k_unmd); k_unfold)
          show (let zG : Prop := _; zG)
          intro zG
          obtain ⟨kk, tok, htk, hPn, hPb, htake⟩ := hGt i hi
          have ho := hoff.mem
          (try k_unmd); k_unfold
          refine turn_name (by decide) rfl F18 hoC N18 hne.1 (fun p hp => ?_) ?_
          · rcases List.mem_cons.mp hp with rfl | hp
            · exact Ne.symm hne.2.2
            · exact (ho p hp).2.1
          intro h19 oC5 mC5 F19 hoC5 hx5 N19
          have hcl1 : (S0 + 1 + 1 + 1 + 1, cLex) ∈ newsT := hmT (by rw [hnws]; wtm_at "mm")
          have hcl2 : (LX, instObj 83 dLX) ∈ newsT := hmT (by rw [hnws]; wtm_at "mm")
          replace N19 := news_sub N19 (news' := (I4, oI) :: (C2, oC5) :: (D2, lst ys2) :: (S0 + 1 + 1 + 1 + 1, cLex) :: (LX, instObj 83 dLX) :: (pb, W.listOf ([] : List Value).toArray epb) :: (dLX, dictOf (lexL w (lnAt page (P2 i)) BX pb x0' x1 x2 x3 x4 x5) el) :: (pl, W.listOf [Value.int ((P2 i : Nat) : Int) t'].toArray e) :: newsT) (by wtm_at "msub")
          have hSM : StopAt "getMethod ref" := trivial
          k_steps
          refine stop_in ?_
          clear hSM
          k_dflt (refine' method_inst ?gmA ?gmB ?gmC ?gmD ?gmE ?gmF ?gmG ?_; (case gmA => k_asm); (case gmB => k_asm); (case gmC => k_inst); (case gmD => k_is); (case gmE => k_is); (case gmF => k_is); (case gmG => k_get); k_whole)
          k_dflt (refine' callWith_K0 ?cwA ?cwB ?_; (case cwA => exact Frag.In.keeps (by k_asm) (Fr.keep (by k_asm))); (case cwB => k_is); k_whole)
          k_steps
          refine stop_in ?_
          rename Fr _ _ _ _ => FG
          rename News _ _ _ _ => NG
          show wpAny _ _ (call (.ref 73) [.ref LX]) _ _ _
          have NG2 := news_sub NG (news' := (pb, W.listOf ([] : List Value).toArray epb) :: (dLX, dictOf (lexL w (lnAt page (P2 i)) BX pb x0' x1 x2 x3 x4 x5) el) :: (pl, W.listOf [Value.int ((P2 i : Nat) : Int) t'].toArray e) :: (I4, oI) :: (C2, oC5) :: (D2, lst ys2) :: newsT) (by wtm_at "msub")
          have hG : ∀ {x}, x ∈ nws → x ∈ (I4, oI) :: (C2, oC5) :: (D2, lst ys2) :: newsT := fun h => .tail _ (.tail _ (.tail _ (hmT h)))
          have epb' := ho _ (.head _)
          have edLX := ho _ (.tail _ (.head _))
          have epl := ho _ (.tail _ (.tail _ (.head _)))
          have hoG : ∀ x ∈ (I4, oI) :: (C2, oC5) :: (D2, lst ys2) :: newsT, x.1 ≠ pl ∧ x.1 ≠ dLX ∧ x.1 ≠ pb := fa_cons ⟨Ne.symm epl.1, Ne.symm edLX.1, Ne.symm epb'.1⟩ (fa_cons ⟨Ne.symm epl.2.1, Ne.symm edLX.2.1, Ne.symm epb'.2.1⟩ (fa_cons ⟨Ne.symm epl.2.2, Ne.symm edLX.2.2, Ne.symm epb'.2.2⟩ hoT))
          clear NG
          refine c_get page _ _ LX dLX BX dBX pbB pb fR cT cP pl (P2 i) (P2 (i + 1)) e el epb oT oP b0 b1 b2 b3 b4 b5 b6 x0' x1 x2 x3 x4 x5 tok [] [] K' FG X' NG2 (fun x hx => (hoG x hx).1) (fun x hx => (hoG x hx).2.1) (hInc.ne' (i := 7) (j := 8) (by decide)) (fun x hx => (hoG x hx).2.2) ⟨(hInc.ne' (i := 8) (j := 10) (by decide)), (hInc.ne' (i := 7) (j := 10) (by decide))⟩ T' ?r4 ?r5 ?r1 ?r2 (hG ?m1) (hG ?m2) (hG ?m3) (hG ?m4) (hG ?m5) hoT' hoP (hR2.mono fun x hx => hG (hmN hx)) hpl hPb (by simp) (.inl ⟨rfl, rfl, kk, htk, hPn⟩) ?_
          case r4 => exact rfl
          case r5 => exact rfl
          case r1 => k_room
          case r2 => k_units
          case m1 => rw [hnws]; wtm_at "mm"
          case m2 => rw [hnws]; wtm_at "mm"
          case m3 => rw [hnws]; wtm_at "mm"
          case m4 => rw [hnws]; wtm_at "mm"
          case m5 => rw [hnws]; wtm_at "mm"
          intro h20 tk20 t20 e20 ts20 x0' el20 epb20 F20 N20
          clear FG NG2
          k_steps
          rename News _ _ _ _ => NT
          rename Fr _ _ _ _ => FT
          refine turnEnd_mkG (nw := (pb, W.listOf ([] : List Value).toArray epb20) :: (dLX, dictOf (lexL w (lnAt page (P2 (i + 1))) BX pb x0' x1 x2 x3 x4 x5) el20) :: (pl, W.listOf [Value.int ((P2 (i + 1) : Nat) : Int) t20].toArray e20) :: newsT) hbg FT hoC5 (news_sub NT (fun x hx => ?g1)) (off3_of (fun x hx => ?g2)) (JCmk _ _ _ el20 e20 epb20 _ t20 rfl ?g6)
          case g1 =>
            revert x hx; wtm_at "msub"
          case g2 => exact fa_cons (P := fun x => x.1 ≠ _ ∧ x.1 ≠ _ ∧ x.1 ≠ _) epb' (fa_cons edLX (fa_cons epl fun x h => ho x (lift_3 h))) x hx
          case g6 =>
            rw [htake]
            exact hys2.snoc
        · intro D2 C2 h18 tk18 gg m18 ys2 nw hbr2 F18 N18 ob2 hn18 hC0 hD0 hCL hDL hCD offC JJ
          refine JCel _ _ _ _ ?_ JJ
          intro el e epb x0' t' zq11 hys2 h19 hs19
          clear JJ
          (show (let zG : Prop := _; zG); intro zG; subst zq11; (try k_unmd); k_unfold)
          obtain ⟨F19, N19⟩ := fin_E' F18 N18 hC0 hCL hCD offC hs19
          clear F18 N18
          try k_fold
          k_steps
          refine stop_in ?_
          rename Fr _ _ _ _ => FV
          rename News _ _ _ _ => NV
          refine c_letters whole _ K' FV X' NV T' ?r4 ?r5 ?r1 ?r2 ?r3 ?_
          case r4 => exact rfl
          case r5 => exact rfl
          case r1 => k_room
          case r2 => k_units
          case r3 => exact (by wtm_at "lo" : ((whole : Nat) : Int) < 2 ^ 120)
          intro nx h20 tk20 t20 F20 N20
          replace N20 := news_sub N20 fun x hx => List.mem_append_right nx hx
          have hcl1 : (S0 + 1 + 1 + 1 + 1, cLex) ∈ newsT := hmT (by rw [hnws]; wtm_at "mm")
          have hcl2 : (LX, instObj 83 dLX) ∈ newsT := hmT (by rw [hnws]; wtm_at "mm")
          have hcl3 : (S0 + 1 + 1, cPr) ∈ newsT := hmT (by rw [hnws]; wtm_at "mm")
          replace N20 := news_sub N20 (news' := (D2, lst ys2) :: (LX, instObj 83 dLX) :: (S0 + 1 + 1 + 1 + 1, cLex) :: (S0 + 1 + 1, cPr) :: (pb, W.listOf ([] : List Value).toArray epb) :: (dLX, dictOf (lexL w (lnAt page (P2 3)) BX pb x0' x1 x2 x3 x4 x5) el) :: (pl, W.listOf [Value.int ((P2 3 : Nat) : Int) t'].toArray e) :: newsT) (by wtm_at "msub")
          clear FV NV
          k_steps
          refine stop_in ?_
          rename News _ _ _ _ => NV
          refine ne_strs (xs := [letters whole, [], []]) ⟨_, (NV _ (.tail _ (.head _))).1, rfl, _, rfl⟩ hys2 ⟨_, (NV _ (.head _)).1, rfl, _, rfl⟩ ⟨⟨_, rfl⟩, ⟨_, rfl⟩, ⟨_, rfl⟩, trivial⟩ (fun x hx => ?_) ?_ ?_
          · simp only [List.mem_cons, List.not_mem_nil, or_false] at hx
            rcases hx with h | h | h
            · rw [h]; exact strOk_S _ hch.1
            · rw [h]; exact strOk_S _ (by simp)
            · rw [h]; exact strOk_S _ (by simp)
          · k_units
          k_steps
          refine stop_in ?_
          rw [sq_nl]
          have hln : ((lnAt page (P2 3) : Nat) : Int) = 1 + ((page.count 10 : Nat) : Int) := by
            have h1 : page.take (P2 3) = page := List.take_of_length_le (by rw [hP2]; exact pe)
            unfold lnAt
            rw [h1]; wtm_at "lo"
          refine KXw.count (count_S page 10) (fun tc kc => ?_)
          k_steps
          refine stop_in ?_
          refine PyProof.Rows.ne_int ?_
          rw [hln, show ((1 + ((page.count 10 : Nat) : Int)) != (1 + ((page.count 10 : Nat) : Int))) = false from by simp]
          k_steps
          refine stop_in ?_
          have hmx : ∀ x ∈ nx1, x ∈ newsT := fun x hx => hmT (hmN (hm2 x (hs1 x (by simp [hx])) (hn1 x hx).1 (hn1 x hx).2.2.2.2.2 (hn1 x hx).2.2.2.1))
          have h219 : (219, tabObj ps9) ∈ newsT := hmT (hmN (hm2 _ hps9 (by k_ne) (by k_ne) (by k_ne)))
          have hprT : (pr, tup pv) ∈ newsT := hmT (hmN (hm2 _ (hs1 (pr, tup pv) (by simp)) (by k_ne) (by k_ne) (by k_ne)))
          have hDT : (D, lst ys) ∈ newsT := by rw [hnT]; exact .head _
          show (let zG : Prop := _; zG)
          intro zG
          obtain ⟨ta, tb9, tc9, hye⟩ : ∃ ta tb9 tc9, ys = [Value.str (S first) ta, Value.str (S second) tb9, Value.str (S third) tc9] := by
            exact sgs3 hys
          rename Fr _ _ _ _ => FW
          rename News _ _ _ _ => NW
          have hcl3 : (S0 + 1 + 1, cPr) ∈ newsT := hmT (by rw [hnws]; wtm_at "mm")
          have hDT' : (D, W.listOf [Value.str (S first) ta, Value.str (S second) tb9, Value.str (S third) tc9].toArray 3) ∈ newsT := by rw [hye] at hDT; exact hDT
          have h172' : (172, tabObj tb) ∈ newsT := by rw [hnT]; exact mem_1
          have NW2 := news_sub NW (news' := (S0 + 1 + 1, cPr) :: (pr, tup pv) :: (D, W.listOf [Value.str (S first) ta, Value.str (S second) tb9, Value.str (S third) tc9].toArray 3) :: (172, tabObj tb) :: (219, tabObj ps9) :: newsT) (by wtm_at "msub")
          clear NW
          (try k_unmd); k_unfold
          refine' kms_slice_lit (zs := [Value.str (S first) ta, Value.str (S second) tb9]) FW NW2 ?sl ?sp ?sq ?se ?_ ?ss ?z9st ?sz
          case sl => exact News.isList NW2 (.tail _ (.tail _ (.head _)))
          case sp => kmk_part
          case sq => kmk_part
          case se => rfl
          case ss => with_unfolding_all rfl
          case z9st => kmk_pure
          case sz => rw [sizeLine_eq]; simp
          intro DS h22 F22 N22 hDS
          clear FW NW2
          k_steps
          refine stop_in ?_
          rename Fr _ _ _ _ => FW
          rename News _ _ _ _ => NW
          show wpAny _ _ (call (.ref 251) [.ref lD, .int ((goal : Nat) : Int) _, .int ((0 : Nat) : Int) _, .ref pr]) _ _ _
          have hkx : ∀ {x}, x ∈ newsT → x ∈ (DS, W.listOf [Value.str (S first) ta, Value.str (S second) tb9].toArray 0) :: (S0 + 1 + 1, cPr) :: (pr, tup pv) :: (D, W.listOf [Value.str (S first) ta, Value.str (S second) tb9, Value.str (S third) tc9].toArray 3) :: (172, tabObj tb) :: (219, tabObj ps9) :: newsT := fun h => .tail _ (.tail _ (.tail _ (.tail _ (.tail _ (.tail _ h)))))
          refine c_hung 10 lD pr goal 0 _ _ lk lvs le pv n2 second K' FW X' NW T' ?r4 ?r5 ?r1 ?r2 (hkx (hmx _ hlD)) (hlk.mono fun x hx => hkx (hmx x hx)) hlk10 (hkx hprT) hpv hu2 ?_
          case r4 => exact rfl
          case r5 => exact rfl
          case r1 => k_room
          case r2 => k_units
          intro R4 h23 tk23 b4 b5 F23 N23 lR4
          clear FW NW
          k_steps
          refine stop_in ?_
          rename News _ _ _ _ => NX
          refine ne_strs (xs := [first, second]) ⟨_, (NX (DS, W.listOf [Value.str (S first) ta, Value.str (S second) tb9].toArray 0) (by k_mem)).1, rfl, _, rfl⟩ ⟨⟨_, rfl⟩, ⟨_, rfl⟩, trivial⟩ ⟨_, (NX _ (.head _)).1, rfl, _, rfl⟩ ⟨⟨_, rfl⟩, ⟨_, rfl⟩, trivial⟩ (fun x hx => ?_) ?_ ?_
          · simp only [List.mem_cons, List.not_mem_nil, or_false] at hx
            rcases hx with h | h
            · rw [h]; exact strOk_S _ hch.2.1
            · rw [h]; exact strOk_S _ hch.2.2
          · k_units
          k_steps
          refine stop_in ?_
          rename News _ _ _ _ => NX
          refine item_lst (k := 2) (vs := [Value.str (S first) ta, Value.str (S second) tb9, Value.str (S third) tc9]) (e := 3) NX (by k_mem) rfl rfl (by decide) ?_
          k_steps
          refine stop_in ?_
          rename Fr _ _ _ _ => FY
          rename News _ _ _ _ => NY
          refine c_lread third _ pr pv wanted K' FY X' NY T' ?r4 ?r5 ?r1 ?r2 (by k_mem) hpv (by wtm_at "inc") rd ?_
          case r4 => exact rfl
          case r5 => exact rfl
          case r1 => k_room
          case r2 => k_units
          intro bg9 a9 n9 t9a t9b h24 tk24 e24 e25 e26 F24 N24
          clear FY NY
          k_steps
          refine stop_in ?_
          rename News _ _ _ _ => NY
          refine eq_nest (reads_nest ⟨_, (NY _ (.tail _ (.tail _ (.tail _ (.head _))))).1, rfl, _, rfl⟩ ⟨_, (NY _ (.tail _ (.tail _ (.tail _ (.tail _ (.head _)))))).1, rfl, _, rfl⟩ ⟨_, (NY _ (.tail _ (.tail _ (.tail _ (.tail _ (.tail _ (.head _))))))).1, rfl, _, rfl⟩) (reads_nest ⟨_, (NY _ (.head _)).1, rfl, _, rfl⟩ ⟨_, (NY _ (.tail _ (.head _))).1, rfl, _, rfl⟩ ⟨_, (NY _ (.tail _ (.tail _ (.head _)))).1, rfl, _, rfl⟩) ?_ ?_
          · k_units
          have NF := news_sub NY (news' := [(172, tabObj tb), (219, tabObj ps9)]) fun x hx => by
            simp only [List.mem_cons, List.not_mem_nil, or_false] at hx
            rcases hx with h | h
            · rw [h]; (repeat (first | exact .head _ | refine .tail _ ?_))
            · rw [h]; (repeat (first | exact .head _ | refine .tail _ ?_))
          clear NY
          k_steps
          rename Fr _ _ _ _ => FZ
          exact ⟨rfl, hh0.symm ▸ FZ.keep, rfl, hbr2 (AllBare.of_eq hgens)⟩)
end Mine.Internal
end PartClaw
set_option maxRecDepth 100000 in
set_option maxHeartbeats 8000000 in
theorem PySem.Challenge.cw_kl0306_01_holds : PySem.Challenge.rw_kl0306_01.Holds := by
  exact Mine.Internal.law_holds fun ns _ => Classical.choice (Mine.Internal.lawFacts ns)
