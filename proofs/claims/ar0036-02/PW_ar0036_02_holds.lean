import PyProof.Rows.All
import Wide.All
import OpenK.AllK
import Wide.FinOn
import PySem.Challenge.RW_ar0036_02
open PySem PySem.W PyProof.Rows
set_option Elab.async false
set_option compiler.extract_closed false
set_option linter.all false
section
set_option hygiene false in
local macro_rules | `(tactic| refine $e) => `(tactic| (refine' $e; try (case hl => exact S _); try (case hc => exact hc)))
set_option maxRecDepth 100000 in
set_option maxHeartbeats 8000000 in
def Mine.w : (T : Prop) ×' (((L : Prop) → L) → T → PySem.Challenge.rw_ar0036_02.Holds) := ⟨_, fun S hc => by
  w_on; refine' holds_law (S _) fun said => ?_; k_head
  w_witness2⟩
end
namespace Mine.hd
theorem tw6818987989461384207:True:=⟨⟩
theorem tw17087091549796120035:True:=⟨⟩
theorem tw6924109203229866365:True:=⟨⟩
theorem tw13047593935725612058:True:=⟨⟩
theorem tw7519716089354478335:True:=⟨⟩
theorem tw14892549342360969540:True:=⟨⟩
theorem tw978945382295711627:True:=⟨⟩
theorem tw6293948785866598258:True:=⟨⟩
theorem tw5961118342813265553:True:=⟨⟩
theorem tw18185175575083235020:True:=⟨⟩
theorem tw11128854368766332075:True:=⟨⟩
theorem tw8068729725432388964:True:=⟨⟩
theorem tw5148922909946612681:True:=⟨⟩
theorem tw5781342201191254626:True:=⟨⟩
theorem tw17711083657039698284:True:=⟨⟩
theorem tw5732804406350252772:True:=⟨⟩
theorem tw1452849714261714991:True:=⟨⟩
theorem tw16302227732802510677:True:=⟨⟩
theorem tw14620637471214046174:True:=⟨⟩
theorem tw12631932088317031055:True:=⟨⟩
theorem tw15043168886218598503:True:=⟨⟩
theorem tw2867327485932766208:True:=⟨⟩
theorem tw10752148897807903841:True:=⟨⟩
theorem tw6990203504111849199:True:=⟨⟩
theorem tw16649331688326792143:True:=⟨⟩
theorem tw15103106377680225435:True:=⟨⟩
theorem tw11652457597714270106:True:=⟨⟩
theorem tw8674980644004459391:True:=⟨⟩
theorem tw7384112240381278173:True:=⟨⟩
theorem tw7793673504863384051:True:=⟨⟩
theorem tw307737655149646647:True:=⟨⟩
theorem tw11117797201346649052:True:=⟨⟩
theorem tw2216850387143573719:True:=⟨⟩
theorem tw6838551448383532254:True:=⟨⟩
theorem tw461538923250603899:True:=⟨⟩
theorem tw18241275227582772068:True:=⟨⟩
theorem tw5592360268479517082:True:=⟨⟩
theorem tw1847840615245081061:True:=⟨⟩
theorem tw8047900516022102942:True:=⟨⟩
theorem tw8671608845466749128:True:=⟨⟩
theorem tw8343274005884668182:True:=⟨⟩
theorem tw6998783941825042932:True:=⟨⟩
theorem tw701957132916908730:True:=⟨⟩
theorem tw16772102934027710169:True:=⟨⟩
theorem tw12936449754285732098:True:=⟨⟩
theorem tw16332348944364537037:True:=⟨⟩
theorem tw2114630138375439770:True:=⟨⟩
theorem tw10012880186880212623:True:=⟨⟩
theorem tw7752767780024739350:True:=⟨⟩
theorem tw17650839729002327288:True:=⟨⟩
theorem tw10802023610386388517:True:=⟨⟩
theorem tw12092154237167983948:True:=⟨⟩
theorem tw6528754448969337418:True:=⟨⟩
theorem tw5373601922739893978:True:=⟨⟩
theorem tw17447410573909459338:True:=⟨⟩
theorem tw8770205317985620760:True:=⟨⟩
theorem tw14353793391729792155:True:=⟨⟩
theorem tw4990156530697904881:True:=⟨⟩
theorem tw5567388512258382067:True:=⟨⟩
theorem tw7746578258024575070:True:=⟨⟩
theorem tw12588582704262371052:True:=⟨⟩
theorem tw11893437276241958245:True:=⟨⟩
theorem tw11953376511379268794:True:=⟨⟩
theorem tw3182187488490625086:True:=⟨⟩
theorem tw18300207936620678264:True:=⟨⟩
theorem tw15368132723985388332:True:=⟨⟩
theorem tw13518370688599389936:True:=⟨⟩
theorem tw2440592905100669153:True:=⟨⟩
theorem tw13342606739435360313:True:=⟨⟩
theorem tw5363564295841288755:True:=⟨⟩
theorem tw1563243489668339170:True:=⟨⟩
theorem tw5562173858411828344:True:=⟨⟩
theorem tw13919464512627920130:True:=⟨⟩
theorem tw7891253978561527248:True:=⟨⟩
theorem tw2167537188350426706:True:=⟨⟩
theorem tw5278057926702712004:True:=⟨⟩
theorem tw13903934854276604550:True:=⟨⟩
theorem tw3443669649825651883:True:=⟨⟩
theorem tw6545403380812914513:True:=⟨⟩
theorem tw6482722132109649516:True:=⟨⟩
theorem tw11752467884777980105:True:=⟨⟩
theorem tw3480954088277226078:True:=⟨⟩
theorem tw12173100003817136821:True:=⟨⟩
theorem tw11631869004601391166:True:=⟨⟩
theorem tw14400467628812073631:True:=⟨⟩
theorem tw4115565904173853331:True:=⟨⟩
theorem tw10111801491309104144:True:=⟨⟩
theorem tw6982297934935202809:True:=⟨⟩
theorem tw10525666975642140466:True:=⟨⟩
theorem tw7510230149288206974:True:=⟨⟩
theorem tw12901994302517312135:True:=⟨⟩
theorem tw6819123309680001836:True:=⟨⟩
theorem tw12079599178630881963:True:=⟨⟩
theorem tw3291281947507527901:True:=⟨⟩
theorem tw5987830557187376847:True:=⟨⟩
theorem tw17901334829092211166:True:=⟨⟩
theorem tw2195365466389143174:True:=⟨⟩
theorem tw13225837485096350037:True:=⟨⟩
theorem tw16037735763661986305:True:=⟨⟩
theorem tw3759623122121258479:True:=⟨⟩
theorem tw1865391376527767206:True:=⟨⟩
theorem tw16155205043701107222:True:=⟨⟩
theorem tw8117029840178788049:True:=⟨⟩
theorem tw8545014587354053640:True:=⟨⟩
theorem tw9427301549700849589:True:=⟨⟩
theorem tw7610815399733428385:True:=⟨⟩
theorem tw1882180444382439491:True:=⟨⟩
theorem tw701787995468756871:True:=⟨⟩
theorem tw7914949630228597729:True:=⟨⟩
theorem tw12050417470231563642:True:=⟨⟩
theorem tw1626546999972836498:True:=⟨⟩
theorem tw7957351464481857508:True:=⟨⟩
theorem tw17469800364647435590:True:=⟨⟩
theorem tw16056359734778111409:True:=⟨⟩
theorem tw920214292312260371:True:=⟨⟩
theorem tw9277588360372424766:True:=⟨⟩
theorem tw17420951861521290806:True:=⟨⟩
theorem tw5978321128707920903:True:=⟨⟩
theorem tw1118553966540926140:True:=⟨⟩
theorem tw9783614193127449063:True:=⟨⟩
theorem tw8965841893048198262:True:=⟨⟩
theorem tw5635641802508607975:True:=⟨⟩
theorem tw13483081372092288885:True:=⟨⟩
theorem tw8977307856219701671:True:=⟨⟩
theorem tw4706079058837389440:True:=⟨⟩
theorem tw8727321023445011275:True:=⟨⟩
theorem tw2274498078352570744:True:=⟨⟩
theorem tw9244321171653502345:True:=⟨⟩
theorem tw4993660671451451078:True:=⟨⟩
theorem tw3085183777334472315:True:=⟨⟩
theorem tw1129884963351977449:True:=⟨⟩
theorem tw5716766192118558609:True:=⟨⟩
theorem tw7085514621470718492:True:=⟨⟩
theorem tw16006246977917349235:True:=⟨⟩
theorem tw6830512106363814048:True:=⟨⟩
theorem tw13855946660403688772:True:=⟨⟩
theorem tw5245234834050458271:True:=⟨⟩
theorem tw10170382586518783626:True:=⟨⟩
theorem tw2284436838669742495:True:=⟨⟩
theorem tw15166520500009309586:True:=⟨⟩
theorem tw17574625026820762457:True:=⟨⟩
theorem tw12767517992797551901:True:=⟨⟩
theorem tw16412773359747925120:True:=⟨⟩
theorem tw16794629799341752650:True:=⟨⟩
theorem tw17673860158736603733:True:=⟨⟩
theorem tw4225703048834024713:True:=⟨⟩
theorem tw9557236495431379559:True:=⟨⟩
theorem tw7366208706002141716:True:=⟨⟩
theorem tw4015398097383911347:True:=⟨⟩
theorem tw16945582573551092051:True:=⟨⟩
theorem tw9430268157657104642:True:=⟨⟩
theorem tw3828038474966422129:True:=⟨⟩
theorem tw15987713032478767096:True:=⟨⟩
theorem tw8004679753235328684:True:=⟨⟩
theorem tw12058812876911547015:True:=⟨⟩
theorem tw881544763273948857:True:=⟨⟩
theorem tw17130151131035750659:True:=⟨⟩
theorem tw16853341256802265648:True:=⟨⟩
theorem tw15527848837575444561:True:=⟨⟩
theorem tw4523669819894539328:True:=⟨⟩
theorem tw13638418597567726942:True:=⟨⟩
theorem tw1171348915726550028:True:=⟨⟩
theorem tw3381375190539634487:True:=⟨⟩
theorem tw17583777857740559676:True:=⟨⟩
theorem tw17986969038992634876:True:=⟨⟩
theorem tw13828106393651249627:True:=⟨⟩
theorem tw17588044629489971554:True:=⟨⟩
theorem tw10727248033764811480:True:=⟨⟩
theorem tw4851647983119433812:True:=⟨⟩
theorem tw16473244170626142550:True:=⟨⟩
theorem tw226724450230711188:True:=⟨⟩
theorem tw3393662773177571319:True:=⟨⟩
theorem tw10784824025267889561:True:=⟨⟩
theorem tw14705683404202351889:True:=⟨⟩
theorem tw15508949281206285077:True:=⟨⟩
theorem tw4272726840584523970:True:=⟨⟩
theorem tw3109861748172591687:True:=⟨⟩
theorem tw8652628183442184457:True:=⟨⟩
theorem tw15595854959937240912:True:=⟨⟩
theorem tw16828841361933241965:True:=⟨⟩
theorem tw6196171512934965099:True:=⟨⟩
theorem tw13958120312559236348:True:=⟨⟩
theorem tw10458740792067480800:True:=⟨⟩
theorem tw17183224562656869120:True:=⟨⟩
theorem tw1506431575118746342:True:=⟨⟩
theorem tw13866372431405929976:True:=⟨⟩
theorem tw12112201142124510154:True:=⟨⟩
theorem tw17213754286329925777:True:=⟨⟩
theorem tw16091413853298234908:True:=⟨⟩
theorem tw3530705653197291679:True:=⟨⟩
theorem tw84519696092419186:True:=⟨⟩
theorem tw16904818350239718627:True:=⟨⟩
theorem tw4282304852377368616:True:=⟨⟩
theorem tw13322179722446271537:True:=⟨⟩
theorem tw6820862383352777685:True:=⟨⟩
theorem tw2701402951725559080:True:=⟨⟩
theorem tw8716120427605611371:True:=⟨⟩
theorem tw8960069828448710407:True:=⟨⟩
theorem tw7763873220885509757:True:=⟨⟩
theorem tw6882427118574961969:True:=⟨⟩
theorem tw15642763164714097627:True:=⟨⟩
theorem tw991583007596301734:True:=⟨⟩
theorem tw15279998641719260112:True:=⟨⟩
theorem tw5505005885091257285:True:=⟨⟩
theorem tw3789350110615891812:True:=⟨⟩
theorem tw18293851220164018083:True:=⟨⟩
theorem tw15643275761693703936:True:=⟨⟩
theorem tw13431754692932380062:True:=⟨⟩
theorem tw5174551420813472067:True:=⟨⟩
theorem tw9170477692918782315:True:=⟨⟩
theorem tw18103342009636024947:True:=⟨⟩
theorem tw16194383521188589630:True:=⟨⟩
theorem tw12598724348716800887:True:=⟨⟩
theorem tw189712035060473897:True:=⟨⟩
theorem tw11210553801493137410:True:=⟨⟩
theorem tw17387473266821786944:True:=⟨⟩
theorem tw13285133528070534704:True:=⟨⟩
theorem tw1413172679324656950:True:=⟨⟩
theorem tw9719896912496429819:True:=⟨⟩
theorem tw5902613922787404954:True:=⟨⟩
theorem tw442638132926106271:True:=⟨⟩
theorem tw12583169130044498743:True:=⟨⟩
theorem tw11713075325732132258:True:=⟨⟩
theorem tw8428860471423672150:True:=⟨⟩
theorem tw1580110805410547442:True:=⟨⟩
theorem tw10583446816852156582:True:=⟨⟩
theorem tw10030107230732127627:True:=⟨⟩
theorem tw12949589719889679912:True:=⟨⟩
theorem tw8879563391730754479:True:=⟨⟩
theorem tw8268277133935991078:True:=⟨⟩
theorem tw250903467453971090:True:=⟨⟩
theorem tw14955159897011116063:True:=⟨⟩
theorem tw9670673519109624972:True:=⟨⟩
theorem tw8242931771332617035:True:=⟨⟩
theorem tw10246146449241189800:True:=⟨⟩
theorem tw5130813555471234732:True:=⟨⟩
theorem tw7512474625130614241:True:=⟨⟩
theorem tw16259696140248634718:True:=⟨⟩
theorem tw15089522573102190283:True:=⟨⟩
theorem tw9748044761591592747:True:=⟨⟩
theorem tw16154546982801380032:True:=⟨⟩
theorem tw18166333605607142505:True:=⟨⟩
theorem tw11513968764499736323:True:=⟨⟩
theorem tw212345690472687942:True:=⟨⟩
theorem tw16299908979028503884:True:=⟨⟩
theorem tw1359830224848277088:True:=⟨⟩
theorem tw12744807935193187038:True:=⟨⟩
theorem tw11054480109507316185:True:=⟨⟩
theorem tw11631947586910100387:True:=⟨⟩
theorem tw2327210489368252092:True:=⟨⟩
theorem tw14560493823538711346:True:=⟨⟩
theorem tw100483095206116625:True:=⟨⟩
theorem tw5480042469492414594:True:=⟨⟩
theorem tw7528090204519254293:True:=⟨⟩
theorem tw16634568088961857937:True:=⟨⟩
theorem tw3143712602261400420:True:=⟨⟩
theorem tw8105295227477018077:True:=⟨⟩
theorem tw9398405308114057262:True:=⟨⟩
theorem tw5629675986466331604:True:=⟨⟩
theorem tw13790719812936386609:True:=⟨⟩
theorem tw6164396464334811476:True:=⟨⟩
theorem tw18245042118932799458:True:=⟨⟩
theorem tw10919297434634762262:True:=⟨⟩
theorem tw2315301623876862497:True:=⟨⟩
theorem tw9702936160620672325:True:=⟨⟩
theorem tw15615537253650120727:True:=⟨⟩
theorem tw8934143017859847078:True:=⟨⟩
theorem tw12575139184659369484:True:=⟨⟩
theorem tw15422856539912107476:True:=⟨⟩
theorem tw1836080755315867724:True:=⟨⟩
theorem tw1013155817946168525:True:=⟨⟩
theorem tw17330945745186091897:True:=⟨⟩
theorem tw1409312971732116557:True:=⟨⟩
theorem tw10004797160117703195:True:=⟨⟩
theorem tw1011335219593555734:True:=⟨⟩
theorem tw5292301768408028288:True:=⟨⟩
theorem tw1954109241102656831:True:=⟨⟩
theorem tw8609351116199087170:True:=⟨⟩
theorem tw18093812233618175256:True:=⟨⟩
theorem tw12399718760709695909:True:=⟨⟩
theorem tw1222794163293265305:True:=⟨⟩
theorem tw13409441903868389331:True:=⟨⟩
theorem tw5054737718236178183:True:=⟨⟩
theorem tw9763420282994701918:True:=⟨⟩
theorem tw14678209027938369040:True:=⟨⟩
theorem tw17672654358674132775:True:=⟨⟩
theorem tw631698841614932220:True:=⟨⟩
theorem tw4360684699965382250:True:=⟨⟩
theorem tw8735263284916673568:True:=⟨⟩
theorem tw17893044597097874663:True:=⟨⟩
theorem tw13267510147771200024:True:=⟨⟩
theorem tw11032806212648032379:True:=⟨⟩
theorem tw14906377314874228009:True:=⟨⟩
theorem tw15042006015671813226:True:=⟨⟩
theorem tw6931407450589930559:True:=⟨⟩
theorem tw14488336819298241945:True:=⟨⟩
theorem tw15910714762333108613:True:=⟨⟩
theorem tw18343703819029505601:True:=⟨⟩
theorem tw17681399029576232318:True:=⟨⟩
theorem tw8959176491354863721:True:=⟨⟩
theorem tw2930668341846507884:True:=⟨⟩
theorem tw13783031573616600631:True:=⟨⟩
theorem tw15220180469806662145:True:=⟨⟩
theorem tw280609765759037681:True:=⟨⟩
theorem tw7023726343779634624:True:=⟨⟩
theorem tw5511420028821071320:True:=⟨⟩
theorem tw7880807054014371918:True:=⟨⟩
theorem tw3309697970292668127:True:=⟨⟩
theorem tw7270182246851987180:True:=⟨⟩
theorem tw15153279154761372571:True:=⟨⟩
theorem tw12614811148066621264:True:=⟨⟩
theorem tw13289513938125300765:True:=⟨⟩
theorem tw12127338746724423809:True:=⟨⟩
theorem tw9741134391959003819:True:=⟨⟩
theorem tw10949625832625181284:True:=⟨⟩
theorem tw16540589490461094875:True:=⟨⟩
theorem tw11709330566771433103:True:=⟨⟩
theorem tw15813434630575017362:True:=⟨⟩
theorem tw16722109127936396110:True:=⟨⟩
theorem tw12070654863422294720:True:=⟨⟩
theorem tw5657824000916062451:True:=⟨⟩
theorem tw11402939732021071671:True:=⟨⟩
theorem tw5608270528595127837:True:=⟨⟩
theorem tw10126750691676969038:True:=⟨⟩
theorem tw6555240042291301478:True:=⟨⟩
theorem tw16713699803418581334:True:=⟨⟩
theorem tw8516288146210602744:True:=⟨⟩
theorem tw2898070501236239869:True:=⟨⟩
theorem tw922143313871775805:True:=⟨⟩
theorem tw14168552714766633299:True:=⟨⟩
theorem tw10792051664901133789:True:=⟨⟩
theorem tw2391449824757734642:True:=⟨⟩
theorem tw12471131715012749390:True:=⟨⟩
theorem tw17258206423299326598:True:=⟨⟩
theorem tw3442329435671937591:True:=⟨⟩
theorem tw2081544021108705427:True:=⟨⟩
theorem tw12070051907170230399:True:=⟨⟩
theorem tw9499510787657705874:True:=⟨⟩
theorem tw11232374478483605306:True:=⟨⟩
theorem tw17562767543260142214:True:=⟨⟩
theorem tw6038821095411175016:True:=⟨⟩
theorem tw10860895700388868024:True:=⟨⟩
theorem tw11587034568685482758:True:=⟨⟩
theorem tw2442259710966052079:True:=⟨⟩
theorem tw16211521421427940678:True:=⟨⟩
theorem tw2603259988358896889:True:=⟨⟩
theorem tw2999033326186475339:True:=⟨⟩
theorem tw17843490464661113860:True:=⟨⟩
theorem tw17714235663813219645:True:=⟨⟩
theorem tw5366084841770067474:True:=⟨⟩
theorem tw8789358453043137523:True:=⟨⟩
theorem tw10614716105012338702:True:=⟨⟩
theorem tw4315991029959535628:True:=⟨⟩
theorem tw6019021122589006684:True:=⟨⟩
theorem tw11242980213680690763:True:=⟨⟩
theorem tw1800889605409440832:True:=⟨⟩
theorem tw8990313861142287110:True:=⟨⟩
theorem tw1097998534492414930:True:=⟨⟩
theorem tw5036846961687405229:True:=⟨⟩
theorem tw8134915037123179040:True:=⟨⟩
theorem tw845060206244984605:True:=⟨⟩
theorem tw14754404106442844205:True:=⟨⟩
theorem tw9345929723534960622:True:=⟨⟩
theorem tw3919010098100093602:True:=⟨⟩
theorem tw1997569388931296116:True:=⟨⟩
theorem tw17948085552500728524:True:=⟨⟩
theorem tw17054507655720011243:True:=⟨⟩
theorem tw5416991563250132298:True:=⟨⟩
theorem tw1760603350576429475:True:=⟨⟩
theorem tw3008623586974134963:True:=⟨⟩
theorem tw16920754564084929960:True:=⟨⟩
theorem tw10491609206876299696:True:=⟨⟩
theorem tw17975533764899295144:True:=⟨⟩
theorem tw16868993833207775613:True:=⟨⟩
theorem tw16612016013026323051:True:=⟨⟩
theorem tw13321331477185743149:True:=⟨⟩
theorem tw12273058598527411343:True:=⟨⟩
theorem tw13893168526513508166:True:=⟨⟩
theorem tw17699033467910553154:True:=⟨⟩
theorem tw17336936450418997793:True:=⟨⟩
theorem tw1848646778235469078:True:=⟨⟩
theorem tw4402725079659364252:True:=⟨⟩
theorem tw1600037746751723098:True:=⟨⟩
theorem tw8226494294326810461:True:=⟨⟩
theorem tw11251137523995926341:True:=⟨⟩
theorem tw17739348878880393726:True:=⟨⟩
theorem tw13770079208771991547:True:=⟨⟩
theorem tw15790720579355451973:True:=⟨⟩
theorem tw3452082135128663414:True:=⟨⟩
theorem tw11005561430357413609:True:=⟨⟩
theorem tw13368278939475635651:True:=⟨⟩
theorem tw2051048951616859547:True:=⟨⟩
theorem tw11465210709893060100:True:=⟨⟩
theorem tw16029623286316568529:True:=⟨⟩
theorem tw3451239065008710300:True:=⟨⟩
theorem tw15344866539931968096:True:=⟨⟩
theorem tw18291419657060728153:True:=⟨⟩
theorem tw15759970867653108152:True:=⟨⟩
theorem tw15411387601460861337:True:=⟨⟩
theorem tw4086058157674990017:True:=⟨⟩
theorem tw395138700845864316:True:=⟨⟩
theorem tw7494724483528729301:True:=⟨⟩
theorem tw4159134105002834734:True:=⟨⟩
theorem tw9228397985900620932:True:=⟨⟩
theorem tw9673543361469618366:True:=⟨⟩
theorem tw8457440626546761165:True:=⟨⟩
theorem tw2799067240506288376:True:=⟨⟩
theorem tw9566141503761928105:True:=⟨⟩
theorem tw16157073509204512506:True:=⟨⟩
theorem tw3571134770919094901:True:=⟨⟩
theorem tw13181700845877081190:True:=⟨⟩
theorem tw16345102440705955213:True:=⟨⟩
theorem tw13250765402290087314:True:=⟨⟩
theorem tw1197925565968671727:True:=⟨⟩
theorem tw15673258824015622330:True:=⟨⟩
theorem tw9440118169554580438:True:=⟨⟩
theorem tw10258225898301398825:True:=⟨⟩
theorem tw11754176132448286083:True:=⟨⟩
theorem tw3493717111155160527:True:=⟨⟩
theorem tw18103420901670897651:True:=⟨⟩
theorem tw22551697357593593:True:=⟨⟩
theorem tw6291416237084387574:True:=⟨⟩
theorem tw3795277891434052102:True:=⟨⟩
theorem tw7525542149764818722:True:=⟨⟩
theorem tw6868836192036940282:True:=⟨⟩
theorem tw7534799579077118603:True:=⟨⟩
theorem tw6547078798241139092:True:=⟨⟩
theorem tw6067372596601214235:True:=⟨⟩
theorem tw7355570028127101125:True:=⟨⟩
theorem tw6767318904944593275:True:=⟨⟩
theorem tw10601615944963115059:True:=⟨⟩
theorem tw7296583596125217682:True:=⟨⟩
theorem tw10678649693572172417:True:=⟨⟩
theorem tw11778180911958503814:True:=⟨⟩
theorem tw14478148883734587675:True:=⟨⟩
theorem tw8381844023166312768:True:=⟨⟩
theorem tw15852365999677673905:True:=⟨⟩
theorem tw3646829019195819677:True:=⟨⟩
theorem tw978014153386294347:True:=⟨⟩
theorem tw4971549296188076032:True:=⟨⟩
theorem tw17177331786930743035:True:=⟨⟩
theorem tw758273949599710562:True:=⟨⟩
theorem tw7289634563603522867:True:=⟨⟩
theorem tw17542962492245011380:True:=⟨⟩
theorem tw17252143746492648416:True:=⟨⟩
theorem tw17377529257436501650:True:=⟨⟩
theorem tw17001982702790524580:True:=⟨⟩
theorem tw6184460063843016694:True:=⟨⟩
theorem tw14457593812595234344:True:=⟨⟩
theorem tw5343241284826551009:True:=⟨⟩
theorem tw2323474266016966308:True:=⟨⟩
theorem tw11162318198679636149:True:=⟨⟩
theorem tw8800731360411900170:True:=⟨⟩
theorem tw6264232113106981867:True:=⟨⟩
theorem tw18219297243305740317:True:=⟨⟩
theorem tw4702841417184801058:True:=⟨⟩
theorem tw15367242080415987702:True:=⟨⟩
theorem tw18293732401869909652:True:=⟨⟩
theorem tw7975485470687201451:True:=⟨⟩
theorem tw11660266114150955751:True:=⟨⟩
theorem tw3704167492566942397:True:=⟨⟩
theorem tw6442067068224118133:True:=⟨⟩
theorem tw16477043939570097188:True:=⟨⟩
theorem tw16171809288044610508:True:=⟨⟩
theorem tw9702202555907925646:True:=⟨⟩
theorem tw15615420239508185596:True:=⟨⟩
theorem tw10603584201595350602:True:=⟨⟩
theorem tw3229955645248102723:True:=⟨⟩
theorem tw6663896369628448293:True:=⟨⟩
theorem tw14980023328507725902:True:=⟨⟩
theorem tw12602439190401603521:True:=⟨⟩
theorem tw16246349783247904111:True:=⟨⟩
theorem tw11151547217846952531:True:=⟨⟩
theorem tw2887051446865420828:True:=⟨⟩
theorem tw10914979622086014670:True:=⟨⟩
theorem tw9657781627882305391:True:=⟨⟩
theorem tw2068664650715991707:True:=⟨⟩
theorem tw1241404454085649124:True:=⟨⟩
theorem tw2329189449893159454:True:=⟨⟩
theorem tw5190246844813560578:True:=⟨⟩
theorem tw14852329139284432860:True:=⟨⟩
theorem tw8356816923877370021:True:=⟨⟩
theorem tw26425463804135960:True:=⟨⟩
theorem tw15683763237869141255:True:=⟨⟩
theorem tw16432713993328977331:True:=⟨⟩
theorem tw1860875286674626437:True:=⟨⟩
theorem tw4297731678662094536:True:=⟨⟩
theorem tw12629568148972539762:True:=⟨⟩
theorem tw295042630055866759:True:=⟨⟩
theorem tw5283464899586487735:True:=⟨⟩
theorem tw12292276401802421502:True:=⟨⟩
theorem tw7028611270464810887:True:=⟨⟩
theorem tw14246236162039180721:True:=⟨⟩
theorem tw16011055738799735888:True:=⟨⟩
theorem tw8920659734516437415:True:=⟨⟩
theorem tw1194904439430580092:True:=⟨⟩
theorem tw4654797750381630734:True:=⟨⟩
theorem tw12113243949977362033:True:=⟨⟩
theorem tw9153386212771759811:True:=⟨⟩
theorem tw16064382804478563927:True:=⟨⟩
theorem tw17062030032774818151:True:=⟨⟩
theorem tw6305734824756694309:True:=⟨⟩
theorem tw2252305205657439004:True:=⟨⟩
theorem tw4494801613693538912:True:=⟨⟩
theorem tw7526368328331116154:True:=⟨⟩
theorem tw10424393626065333798:True:=⟨⟩
theorem tw5968076265448014739:True:=⟨⟩
theorem tw6438293893037913957:True:=⟨⟩
theorem tw3429492842335990350:True:=⟨⟩
theorem tw12023040214023829324:True:=⟨⟩
end Mine.hd
section
set_option hygiene false in
local macro_rules | `(tactic| refine $e) => `(tactic| (refine' $e; try (case hc => exact walk)))
set_option Elab.async true in
set_option maxRecDepth 100000 in
set_option maxHeartbeats 8000000 in
theorem Mine.hd (walk : Mine.w.1) : PySem.Challenge.rw_ar0036_02.Holds := by
  w_on; o_law; k_head
  w_witness2
end
theorem Mine.fst {A : Prop → Prop} {P : (T : Prop) ×' A T} {T : Prop} {h : A T} (e : P = ⟨T, h⟩) (t : T) : P.1 := e ▸ t
set_option maxRecDepth 100000
open PySem PySem.W PyProof.Rows PySem.Spec PySem.Calls
open PyProof.Rows.TI (Frs SameUp)
open PySem.Challenge
set_option maxHeartbeats 8000000
local macro_rules | `(tactic| omega) => `(tactic| lia)
section
namespace Mine
abbrev Led := List (Addr × Obj)
def LeaveM (P : Prop) : Prop := P
theorem enterF {prog : Program} {w : World} {A : Around} {s : Shared} {h₀ : Heap} {L : Addr} {m : Str → Option Value} {news frs : Led} {l : List Env} {cenv : Env} {K : Frag} {p : Program} {loose : List Str} {mean : ExcName → Option Value} {mg mb : Str → Option Value}
    {R : Result → Shared → Prop} {name qual : Str} {params : Arguments} {body : List Stmt} {scope : Scope} {dV kV doc pm cdv ct oc : Value} {an od : Option Addr} {osl : Array (Option Value)} {f : Addr} {args : Args} {binds : List (Str × Value)}
    (F : Fr h₀ L s.heap m) (X₀ : K.In h₀) (N : News h₀ L s.heap news) (T : Top p loose mean mg mb h₀) (Fs : Frs l frs) (hsub : ∀ p ∈ frs, p ∈ news)
    (_hA : A.frames = some (cenv :: l)) (hf : cenv.frame = some L) (hke : cenv.scope.kind = .function)
    (ho : K.lookup f = some ⟨oc, od, .func (fnOf name qual params body scope dV kV doc pm an cdv ct), osl⟩) (hcd : codeIn K cdv qual = true) (hroom : A.depth < recursionLimit)
    (hbind : BindsTo s (fnOf name qual params body scope dV kV doc pm an cdv ct) args binds) (hloc : ∀ y ∈ binds, scope.names.lookup y.1 = some .local)
    (h : ∀ oL L' h₁, TI.Caller h₀ L m oL → Frs (cenv :: l) ((L, oL) :: frs) → (∀ p ∈ (L, oL) :: frs, p ∈ (L, oL) :: news) → (∀ p ∈ (L, oL) :: news, p.1 < L') → (∀ b o, s.heap.get? b = some o → h₁.get? b = some o) → (∀ p ∈ news, p.1 ≠ L) →
      Fr h₀ L' h₁ (fun y => binds.reverse.lookup y) → News h₀ L' h₁ ((L, oL) :: news) →
      wpAny (model prog w) (A.deeper (envOf qual scope L' f cdv)) (execs body (envOf qual scope L' f cdv))
        (fun fl s' => LeaveM (R (.ok (.ret (match fl with | .ret v => v | _ => .none))) s'))
        (fun e s' => wpAny (model prog w) (A.deeper (envOf qual scope L' f cdv)) (leaving (envOf qual scope L' f cdv) e) (fun _ s'' => R (.error e) s'') (fun e' s'' => R (.error e') s'') s')
        { s with heap := h₁, toks := s.toks + binds.length })
    (hco : scope.isCoroutine = false) (hgen : scope.isGenerator = false) (hk : scope.kind = .function)
    (hcell : ∀ x ∈ scope.names, x.2 ≠ .cell) : codeAny (model prog w) A (.call (.ref f) args) R s := by
  have X := X₀.keeps F.keep
  obtain ⟨oL, es, ep, hL, hLd, hLk, hLf⟩ := F.ns
  have hLt := Heap.lt_size hL
  have hkind : cenv.scope.kind ≠ .module := by rw [hke]; decide
  refine codeAny_call_def (fd := fnOf name qual params body scope dV kV doc pm an cdv ct) (body := body) (binds := binds) hroom (X _ _ ho) rfl (T.nolimit.keeps F.keep) (codeRec_of X hcd) rfl hbind hcell hloc (fun h₁ hns hk₁ => ?_) hco hgen hk
  have up : ∀ b o, s.heap.get? b = some o → h₁.get? b = some o := fun b o e => hk₁ b o e
  refine h oL s.heap.objs.size h₁ ⟨fun h' sl e => ⟨_, es, ep, e, hLd, hLk, hLf⟩, ⟨es, ep, hLd⟩, F.above⟩ ⟨hkind, hf, ⟨es, ep, hLd⟩, Fs⟩
    (fun p hp => ?_) (fun p hp => ?_) up (fun p hp => (N p hp).2.1) ⟨hns, fun b o e => up b o (F.keep b o e), Nat.le_trans F.above (Nat.le_of_lt hLt)⟩ (fun p hp => ?_)
  · rcases List.mem_cons.mp hp with rfl | hp
    · exact .head _
    · exact .tail _ (hsub p hp)
  · rcases List.mem_cons.mp hp with rfl | hp
    · exact hLt
    · exact Heap.lt_size (N p hp).1
  · rcases List.mem_cons.mp hp with rfl | hp
    · exact ⟨up _ _ hL, Nat.ne_of_lt hLt, Heap.get?_none_of_le F.above⟩
    · obtain ⟨h1, _, h3⟩ := N p hp
      exact ⟨up _ _ h1, Nat.ne_of_lt (Heap.lt_size h1), h3⟩
theorem backF {h₀ h : Heap} {L L' : Addr} {m m' : Str → Option Value} {oL : Obj} {sl : Array (Option Value)} {news news' : Led} (C : TI.Caller h₀ L m oL) (F' : Fr h₀ L' h m') (N' : News h₀ L' h news')
    (hL : (L, ({ oL with slots := sl } : Obj)) ∈ news') (hs : ∀ p ∈ news, p ∈ news' ∧ p.1 ≠ L) : Fr h₀ L h m ∧ News h₀ L h news := by
  refine ⟨⟨C.ns _ sl (N' _ hL).1, F'.keep, C.above⟩, fun p hp => ?_⟩
  obtain ⟨x1, _, x3⟩ := N' p (hs p hp).1
  exact ⟨x1, (hs p hp).2, x3⟩
def Up (frs : Led) (h : Heap) : Prop := ∀ p ∈ frs, ∃ sl, h.get? p.1 = some { p.2 with slots := sl }
theorem up_of {l : List Env} {frs : Led} {h h' : Heap} (Fs : Frs l frs) (hg : ∀ p ∈ frs, h.get? p.1 = some p.2) (U : h.UpToSlots h') : Up frs h' := fun p hp => by
  obtain ⟨es, ep, hd⟩ := Fs.dict p hp
  exact U p.1 p.2 (hg p hp) fun vs q => by rw [hd] at q; cases q
theorem up_on {l : List Env} {frs : Led} {h h' : Heap} (Fs : Frs l frs) (hg : Up frs h) (U : h.UpToSlots h') : Up frs h' := fun p hp => by
  obtain ⟨es, ep, hd⟩ := Fs.dict p hp
  obtain ⟨sl, hs⟩ := hg p hp
  obtain ⟨sl', hs'⟩ := U p.1 _ hs fun vs q => by rw [show ({ p.2 with slots := sl } : Obj).data = p.2.data from rfl, hd] at q; cases q
  exact ⟨sl', hs'⟩
theorem leaveMade {M : Model} {A : Around} {E : Value → Shared → Prop} {s' : Shared} {h₀ h : Heap} {l : List Env} {frs news : Led} {L a e : Addr} {m : Str → Option Value} {name : Str} {scope : Scope} {cd : Value} {Q : Unit → Shared → Prop} {cls : Value} {vs : List Value}
    (hfr : A.frames = some l) (Fs : Frs l frs) (hsub : ∀ p ∈ frs, p ∈ news) (hx : Heap.MadeExcOf h s'.heap e cls vs) (F : Fr h₀ L h m) (N : News h₀ L h news)
    (hQ : ∀ h' t, Heap.FlyingW h₀ l e cls t h' → Up frs h' → Q () { s' with heap := h' }) (hk : scope.kind = .function := by rfl) :
    wpAny M (A.deeper (envOf name scope L a cd)) (leaving (envOf name scope L a cd) (.ref e)) Q E s' := by
  obtain ⟨oL, es, ep, hL, hLd, _⟩ := F.ns
  have hff : h.FunFrames h₀ (envOf name scope L a cd :: l) := ⟨by show scope.kind ≠ .module; rw [hk]; decide, ⟨L, oL, rfl, Heap.get?_none_of_le F.above, hL, fun vs qq => by rw [hLd] at qq; cases qq⟩, Fs.fun fun p hp => ⟨(N p (hsub p hp)).1, (N p (hsub p hp)).2.2⟩⟩
  exact wpAny_leaves_madeW (Around.frames_deeper hfr) rfl (fun b o q => F.keep b o q) hff hx fun h' t x1 _ _ x4 => hQ h' _ x1 (up_of Fs (fun p hp => (N p (hsub p hp)).1) ((Heap.UpToSlots.of_keeps hx.keeps).trans x4))
theorem leaveOn {M : Model} {A : Around} {E : Value → Shared → Prop} {s' : Shared} {h₀ : Heap} {l : List Env} {frs : Led} {q : Addr × Obj} {L e : Addr} {env : Env} {Q : Unit → Shared → Prop} {cls a0 : Value}
    (hfr : A.frames = some l) (hf : env.frame = some L) (Fs : Frs l frs) (hx : Heap.FlyingW h₀ (env :: l) e cls a0 s'.heap) (hu : Up (q :: frs) s'.heap)
    (hQ : ∀ h', Heap.FlyingW h₀ l e cls a0 h' → Up frs h' → Q () { s' with heap := h' }) :
    wpAny M (A.deeper env) (leaving env (.ref e)) Q E s' :=
  wpAny_leaves_onW (Around.frames_deeper hfr) hf hx fun h' x1 x2 => hQ h' x1 (up_on Fs (fun p hp => hu p (.tail _ hp)) x2)
end Mine
namespace Mine
theorem noLen_int : typeLookup (.type "int") "__len__" = pure none := by rw [typeLookup_type, builtinLookup_eq_fast]; kernel_rfl
theorem len_int_raises {prog : Program} {w : World} {A : Around} {E : Value → Shared → Prop} {s : Shared} {c : Int} {t : Tok} {Q : Value → Shared → Prop} (hA : A.handled = none)
    (h : ∀ h' tk e, Heap.NewExc s.heap h' e "TypeError" → E (.ref e) { s with heap := h', toks := tk }) : wpAny (model prog w) A (call (.builtin "len") [.int c t]) Q E s := by
  refine call_function_entry kind_len plain_len entry_len (args_len1 _) ?_
  unfold Builtin.«len»
  refine wpAny_bind (m := oneArg "len" _) (wpAny_pure ?_)
  refine wpAny_bind (m := callSpecial? (.int c t) (Str.ofString "__len__")) (wpAny_callSpecial?_none (name := Str.ofString "__len__") (typeIs_int s c t) noLen_int ?_)
  refine wpAny_bind (wpAny_rule ?_)
  refine wpAny_bind (wpAny_typeNameOf' (typeIs_int s c t) (h := ?_))
  exact wpAny_raiseErrorMade plainExc_TypeError (by rw [Around.in1_handled]; exact hA) h (by decide +kernel)
end Mine
namespace Mine
theorem sub_cons {a : Addr × Obj} {l frs : Led} (h : ∀ p ∈ frs, p ∈ l) : ∀ p ∈ frs, p ∈ a :: l := fun p hp => .tail _ (h p hp)
theorem sub_app {tl l frs : Led} (h : ∀ p ∈ frs, p ∈ l) : ∀ p ∈ frs, p ∈ tl ++ l := fun p hp => List.mem_append.mpr (.inr (h p hp))
end Mine
namespace Mine
theorem len_app {a b : Str} {k : Nat} (ha : a.length ≤ k) (hb : b.length ≤ 200) : (a ++ b).length ≤ k + 200 := by
  rw [PySem.Str.length_append]; exact Nat.add_le_add ha hb
theorem len_int {x : Int} (h0 : -10000000000 < x) (h1 : x < 10000000000) : (Str.ofString (toString x)).length ≤ 200 := by
  rw [PySem.ofString_length]
  have : (toString x).length ≤ 10 + 1 := int_text_length_le10 (by decide) (by
    have : (10 : Nat) ^ 10 = 10000000000 := by decide
    rw [this]; omega)
  omega
theorem len_lit {x : String} (h : (Str.ofString x).length ≤ 200) : (Str.ofString x).length ≤ 200 := h
theorem len_empty {k : Nat} : (Str.empty).length ≤ k := by have : (Str.empty).length = 0 := by decide
                                                           omega
theorem len_ends {env : Env} {M : Model} {A : Around} {E : Value → Shared → Prop} {s : Shared} {out : Str} {Q : Value → Shared → Prop} (h : Q (.str out s.toks) { s with toks := s.toks + 1 }) (hsz : out.length ≤ 4000) : wpAny M A (joinParts out (evalEach [] env)) Q E s :=
  joinParts_nil h (Nat.le_trans hsz (by decide +kernel))
end Mine
namespace Mine
theorem norm {α : Type} {M : Model} {A : Around} {T : Sem α} {Q : α → Shared → Prop} {E : Value → Shared → Prop} {S : Shared} {h₀ h : Heap} {L : Addr} {m : Str → Option Value} {t : Nat} (s : Shared) (_F : Fr h₀ L h m) (eh : S.heap = h) (eg : S.gens = s.gens) (ed : S.drawn = s.drawn) (eo : S.os = s.os) (et : S.toks = t)
    (k : wpAny M A T Q E { s with heap := h, toks := t }) : wpAny M A T Q E S := by
  obtain ⟨h', g, d, t, o⟩ := S
  dsimp only at eh eg ed eo et
  subst eh eg ed eo et
  exact k
end Mine
namespace Mine
theorem enterFC {prog : Program} {w : World} {A : Around} {s : Shared} {h₀ : Heap} {L : Addr} {m : Str → Option Value} {news frs : Led} {l : List Env} {cenv : Env} {K : Frag} {p : Program} {loose : List Str} {mean : ExcName → Option Value} {mg mb : Str → Option Value}
    {R : Result → Shared → Prop} {name qual : Str} {params : Arguments} {body : List Stmt} {scope : Scope} {dV kV doc pm cdv ct oc : Value} {an od : Option Addr} {osl : Array (Option Value)} {f : Addr} {args : Args} {binds : List (Str × Value)}
    (F : Fr h₀ L s.heap m) (X₀ : K.In h₀) (N : News h₀ L s.heap news) (T : Top p loose mean mg mb h₀) (Fs : Frs l frs) (hsub : ∀ p ∈ frs, p ∈ news)
    (_hA : A.frames = some (cenv :: l)) (hf : cenv.frame = some L) (hke : cenv.scope.kind = .function)
    (ho : K.lookup f = some ⟨oc, od, .func (fnOf name qual params body scope dV kV doc pm an cdv ct), osl⟩) (hcd : codeIn K cdv qual = true) (hroom : A.depth < recursionLimit)
    (hbind : BindsTo s (fnOf name qual params body scope dV kV doc pm an cdv ct) args binds) (hkind : (binds.all fun y => scope.names.lookup y.1 == some .local || scope.names.lookup y.1 == some .cell) = true)
    (hnd : ((cellsFrom 0 scope.names []).map (·.1)).Nodup)
    (h : ∀ oL L' h₁ tk cells, TI.Caller h₀ L m oL → Frs (cenv :: l) ((L, oL) :: frs) → (∀ p ∈ (L, oL) :: frs, p ∈ (L, oL) :: news) → (∀ p ∈ (L, oL) :: news, p.1 < L') → (∀ b o, s.heap.get? b = some o → h₁.get? b = some o) → (∀ p ∈ news, p.1 ≠ L) →
      Fr h₀ L' h₁ (bindL (envOfC qual scope L' f cdv).kindOf binds fun _ => none) → News h₀ L' h₁ (cells ++ (L, oL) :: news) →
      CellsAre (bindC (envOfC qual scope L' f cdv).kindOf binds fun _ => none) (cellsFrom (L' + 1) scope.names []) cells →
      wpAny (model prog w) (A.deeper (envOfC qual scope L' f cdv)) (execs body (envOfC qual scope L' f cdv))
        (fun fl s' => LeaveM (R (.ok (.ret (match fl with | .ret v => v | _ => .none))) s'))
        (fun e s' => wpAny (model prog w) (A.deeper (envOfC qual scope L' f cdv)) (leaving (envOfC qual scope L' f cdv) e) (fun _ s'' => R (.error e) s'') (fun e' s'' => R (.error e') s'') s')
        { s with heap := h₁, toks := tk })
    (hco : scope.isCoroutine = false) (hgen : scope.isGenerator = false) (hk : scope.kind = .function) : codeAny (model prog w) A (.call (.ref f) args) R s := by
  have X := X₀.keeps F.keep
  obtain ⟨oL, es, ep, hL, hLd, hLk, hLf⟩ := F.ns
  have hLt := Heap.lt_size hL
  have hkd : cenv.scope.kind ≠ .module := by rw [hke]; decide
  refine codeAny_call_function hroom (X _ _ ho) rfl hco hgen rfl (codeRec_of X hcd) (hbind _ _ _ _ ?_)
  refine wpAny_newFunctionEnv_cells hk (kindsX hkind _) fun env' he s' x => ?_
  subst he
  refine ⟨(T.nolimit.keeps F.keep).keeps x.toInCall.keep, codeAny_func ?_⟩
  obtain ⟨h₁, tk, rfl, _⟩ := x.done
  have up := x.toInCall.keep
  obtain ⟨cells, NC, Y⟩ := Cl.news (h₀ := s.heap) (Nat.le_refl _) fun n c hm => ⟨x.cell n c (lookup_of_mem_nodup (cellsFrom_names scope.names 0 (s.heap.objs.size + 1) [] [] rfl ▸ hnd) hm), x.above n c hm⟩
  refine h oL s.heap.objs.size h₁ tk cells ⟨fun h' sl e => ⟨_, es, ep, e, hLd, hLk, hLf⟩, ⟨es, ep, hLd⟩, F.above⟩ ⟨hkd, hf, ⟨es, ep, hLd⟩, Fs⟩
    (fun p hp => ?_) (fun p hp => ?_) up (fun p hp => (N p hp).2.1) ⟨x.toInCall.ns, fun b o e => up b o (F.keep b o e), Nat.le_trans F.above (Nat.le_of_lt hLt)⟩ (fun p hp => ?_) Y
  · rcases List.mem_cons.mp hp with rfl | hp
    · exact .head _
    · exact .tail _ (hsub p hp)
  · rcases List.mem_cons.mp hp with rfl | hp
    · exact hLt
    · exact Heap.lt_size (N p hp).1
  · rcases List.mem_append.mp hp with hp | hp
    · refine ⟨(NC p hp).1, (NC p hp).2.1, ?_⟩
      cases q : h₀.get? p.1 with
      | none => rfl
      | some o => have := F.keep _ _ q; rw [(NC p hp).2.2] at this; cases this
    · rcases List.mem_cons.mp hp with rfl | hp
      · exact ⟨up _ _ hL, Nat.ne_of_lt hLt, Heap.get?_none_of_le F.above⟩
      · obtain ⟨h1, _, h3⟩ := N p hp
        exact ⟨up _ _ h1, Nat.ne_of_lt (Heap.lt_size h1), h3⟩
theorem leaveMadeC {M : Model} {A : Around} {E : Value → Shared → Prop} {s' : Shared} {h₀ h : Heap} {l : List Env} {frs news : Led} {L e : Addr} {env : Env} {m : Str → Option Value} {Q : Unit → Shared → Prop} {cls : Value} {vs : List Value}
    (hfr : A.frames = some l) (hf : env.frame = some L) (hk : env.scope.kind = .function) (Fs : Frs l frs) (hsub : ∀ p ∈ frs, p ∈ news) (hx : Heap.MadeExcOf h s'.heap e cls vs) (F : Fr h₀ L h m) (N : News h₀ L h news)
    (hQ : ∀ h' t, Heap.FlyingW h₀ l e cls t h' → Up frs h' → Q () { s' with heap := h' }) :
    wpAny M (A.deeper env) (leaving env (.ref e)) Q E s' := by
  obtain ⟨oL, es, ep, hL, hLd, _⟩ := F.ns
  have hff : h.FunFrames h₀ (env :: l) := ⟨by rw [hk]; decide, ⟨L, oL, hf, Heap.get?_none_of_le F.above, hL, fun vs qq => by rw [hLd] at qq; cases qq⟩, Fs.fun fun p hp => ⟨(N p (hsub p hp)).1, (N p (hsub p hp)).2.2⟩⟩
  exact wpAny_leaves_madeW (Around.frames_deeper hfr) hf (fun b o q => F.keep b o q) hff hx fun h' t x1 _ _ x4 => hQ h' _ x1 (up_of Fs (fun p hp => (N p (hsub p hp)).1) ((Heap.UpToSlots.of_keeps hx.keeps).trans x4))
end Mine
namespace Mine
structure Here (w : World) (h₀ : Heap) (L : Addr) (h : Heap) (m : Str → Option Value) (news frs : Led) (l : List Env) (p : Program) (loose : List Str) (mean : ExcName → Option Value) (mg mb : Str → Option Value) (cs : Scope) (dp un bud : Nat) : Prop where
  F : Fr h₀ L h m
  X : (Mine.w.heap_1 w.params).In h₀
  N : News h₀ L h news
  T : Top p loose mean mg mb h₀
  Fs : Frs l frs
  sub : ∀ p ∈ frs, p ∈ news
  k : cs.kind = .function
  d : dp + bud < recursionLimit
  u : un + 12 * bud < cLine
theorem backF0 {h₀ h : Heap} {L L' : Addr} {m m' : Str → Option Value} {oL : Obj} {news news' : Led} (C : TI.Caller h₀ L m oL) (F' : Fr h₀ L' h m') (N' : News h₀ L' h news')
    (hL : (L, oL) ∈ news') (hs : ∀ p ∈ news, p ∈ news') (hne : ∀ p ∈ news, p.1 ≠ L) : Fr h₀ L h m ∧ News h₀ L h news :=
  backF (sl := oL.slots) C F' N' hL fun p hp => ⟨hs p hp, hne p hp⟩
theorem backF1 {h₀ h : Heap} {L L' : Addr} {m m' : Str → Option Value} {oL : Obj} {news news' : Led} (tl : Led) (C : TI.Caller h₀ L m oL) (F' : Fr h₀ L' h m') (N' : News h₀ L' h news')
    (hL : (L, oL) ∈ news') (hs : ∀ p ∈ tl ++ news, p ∈ news') (hne : ∀ p ∈ tl ++ news, p.1 ≠ L) : Fr h₀ L h m ∧ News h₀ L h (tl ++ news) :=
  backF (sl := oL.slots) C F' N' hL fun p hp => ⟨hs p hp, hne p hp⟩
end Mine
namespace Mine
def loadK {α : Type} (t : Sem α) : Obj → Sem α := match t with
  | .load _ _ k => k
  | _ => fun _ => .unsupported ""
theorem binds_load {s : Shared} {fd : FuncData} {args : Args} {binds : List (Str × Value)} {T : Addr} {o : Obj} (ho : s.heap.get? T = some o)
    (h₁ : bindArgs fd args = .load T none (loadK (bindArgs fd args))) (h₂ : loadK (bindArgs fd args) o = pure binds) : BindsTo s fd args binds := by
  intro M A E Q hq
  rw [h₁]
  have e : (Sem.load T none (loadK (bindArgs fd args)) : Sem (List (Str × Value))) = (loadPart T none >>= loadK (bindArgs fd args)) := rfl
  rw [e]
  refine wpAny_bind (wpAny_loadPart ho ?_)
  rw [h₂]
  exact wpAny_pure hq
def initBinds (x w h size grey alpha bd pal tr bg inter : Value) : List (Str × Value) :=
  [("self", x), ("width", w), ("height", h), ("size", size), ("greyscale", grey), ("alpha", alpha), ("bitdepth", bd), ("palette", pal), ("transparent", tr), ("background", bg), ("compression", .none), ("interlace", inter), ("planes", .none), ("colormap", .none), ("maxval", .none), ("chunk_limit", .int 1048576 712), ("x_pixels_per_unit", .none), ("y_pixels_per_unit", .none), ("unit_is_meter", .bool false)]
end Mine
namespace Mine
def initDef : Stmt := match (PySem.Challenge.pw_ar0036_02.main.body[22]? : Option Stmt) with
  | some (PySem.Stmt.ClassDef _ _ _ (st :: _) _ _ _ _ _ _ _) => st
  | _ => PySem.Stmt.Pass default
def initStmts : List Stmt := match initDef with
  | PySem.Stmt.FunctionDef _ _ b _ _ _ _ _ _ _ => b
  | _ => []
def initScope : Scope := match initDef with
  | PySem.Stmt.FunctionDef _ _ _ _ _ _ sc _ _ _ => sc
  | _ => default
def initAt (k : Nat) : Stmt := (initStmts[k]?).getD (PySem.Stmt.Pass default)
abbrev Fa (dp un : Nat) (gd : Option (List Code)) (l : List Env) : Around := { handled := none, depth := dp, frames := some l, guards := gd, units := un }
abbrev Out (w : World) (A : Around) (env : Env) (R : Result → Shared → Prop) : Value → Shared → Prop :=
  fun e s' => wpAny (model rw_ar0036_02.row.prog w) A (leaving env e) (fun _ s'' => R (.error e) s'') (fun e' s'' => R (.error e') s'') s'
theorem look_hit {x : Str} {v : Value} {m : Str → Option Value} : (fun y => if y = x then some v else m y) x = some v := if_pos rfl
theorem look_miss {x z : Str} {u v : Value} {m : Str → Option Value} (h : x ≠ z) (k : m x = some v) : (fun y => if y = z then some u else m y) x = some v := by
  show (if x = z then some u else m x) = some v
  rw [if_neg h]; exact k
end Mine
namespace Mine
theorem leaveM {h₀ h : Heap} {L L' : Addr} {m m' : Str → Option Value} {oL : Obj} {pre post : Led} {P : Prop} (C : TI.Caller h₀ L m oL) (F' : Fr h₀ L' h m') (N' : News h₀ L' h (pre ++ (L, oL) :: post))
    (h1 : ∀ p ∈ pre, p.1 ≠ L) (h2 : ∀ p ∈ post, p.1 ≠ L) (k : Fr h₀ L h m → News h₀ L h (pre ++ post) → P) : LeaveM P := by
  have hb := backF0 (news := pre ++ post) C F' N' (List.mem_append.mpr (.inr (.head _))) (fun p hp => List.mem_append.mpr ((List.mem_append.mp hp).imp id fun h => .tail _ h)) fun p hp => (List.mem_append.mp hp).elim (h1 p) (h2 p)
  exact k hb.1 hb.2
theorem ne_of_allLt {d : Addr} {l : Led} (h : AllLt d l) : ∀ p ∈ l, p.1 ≠ d := fun p hp => Nat.ne_of_lt (ktn_ltOf h p hp)
end Mine
namespace Mine
section
variable {prog : Program} {w : World} {A : Around} {E : Value → Shared → Prop} {s : Shared} {t u : Tok} {Q : Value → Shared → Prop}
theorem pow31 {B : Int} (hB : B = 2147483648) (h : Q (.int B s.toks) { s with toks := s.toks + 1 }) : wpAny (model prog w) A (binaryOp .Pow (.int 2 t) (.int 31 u)) Q E s :=
  pow_int_small (by decide) (by decide) (by decide) (by rw [show ((2 : Int) ^ (31 : Int).toNat) = B from by rw [hB]; decide +kernel]; exact h)
theorem pow32 {B : Int} (hB : B = 4294967296) (h : Q (.int B s.toks) { s with toks := s.toks + 1 }) : wpAny (model prog w) A (binaryOp .Pow (.int 2 t) (.int 32 u)) Q E s :=
  pow_int_small (by decide) (by decide) (by decide) (by rw [show ((2 : Int) ^ (32 : Int).toNat) = B from by rw [hB]; decide +kernel]; exact h)
end
theorem dlN {M : Model} {A : Around} {E : Value → Shared → Prop} {s : Shared} {name : Str} {scope : Scope} {L a : Addr} {cd : Value} {h₀ : Heap} {m : Str → Option Value} {news : Led} {x : Str} {v : Value} {Q : Unit → Shared → Prop} (F : Fr h₀ L s.heap m) (N : News h₀ L s.heap news) (hv : m x = some v)
    (h : ∀ h' u, Fr h₀ L h' (fun y => if y = x then u else m y) → News h₀ L h' news → Q () { s with heap := h' })
    (hk : scope.kind = .function := by rfl) (hl : (envOf name scope L a cd).kindOf x = some .local := by rfl) :
    wpAny M A (unbindName (envOf name scope L a cd) x) Q E s :=
  wpAny_unbindName_local hl F.ns hv (by show (scope.kind == .class || (scope.kind == .module && L != mainGlobals)) = false; rw [hk]; rfl) fun h' u hn hs => h h' u (F.set hn hs) (N.set hs)
end Mine
namespace Mine
theorem clauseTE {prog : Program} {w : World} {A₀ : Around} {E : Value → Shared → Prop} {s' : Shared} {h₀ : Heap} {L a e : Addr} {m : Str → Option Value} {name : Str} {scope : Scope} {cd : Value} {news : Led}
    {b₀ : Stmt} {suite : List Stmt} {pos np : Pos} {rest : List ExceptHandler} {Q : Flow → Shared → Prop} {p : Program} {loose : List Str} {mean : ExcName → Option Value} {mg mb : Str → Option Value} {K : Frag} {fl : Value}
    (H : TT.HeldNA h₀ L s'.heap m e "TypeError" news fl) (X₀ : K.In h₀) (T : Top p loose mean mg mb h₀) (en : nsIn K mainGlobals "TypeError" = some none)
    (k : ∀ h', Fr h₀ L h' m → News h₀ L h' news → wpAny (model prog w) ((A₀.deeper (envOf name scope L a cd)).mark (some (.ref e))) (execs (b₀ :: suite) (envOf name scope L a cd)) Q E { s' with heap := h' })
    (hk : scope.kind = .function := by rfl) (hxk : (envOf name scope L a cd).kindOf "TypeError" = some .globalImplicit := by rfl)
    (hE : PassesOwnAt (model prog w) ((A₀.deeper (envOf name scope L a cd)).mark (some (.ref e))) (A₀.deeper (envOf name scope L a cd)) (envOf name scope L a cd) E := by passes_own) :
    wpAny (model prog w) (A₀.deeper (envOf name scope L a cd)) (handleBy (.ref e) (envOf name scope L a cd) (.ExceptHandler (some (.Name "TypeError" np)) none (b₀ :: suite) pos :: rest)) Q E s' := by
  refine wpAny_handleBy_builtin (X := "TypeError") (T := "TypeError") (b := true) F.isExc_TypeError F.notTuple_TypeError (by rw [isSubtype_type]; kernel_rfl)
    (wpAny_passesOwnAt hE (name_B H.held.fr X₀ (topRead_of T) en PyProof.Rows.Boot.«TypeError» (by decide) ⟨rfl, H.isA, ?_⟩ hk hxk (by decide)))
  rw [if_pos rfl]
  exact H.lands fun h' F' N' => wpAny_passesOwnAt hE (k h' F' N')
end Mine
namespace Mine
theorem len_tupN {prog : Program} {w : World} {A : Around} {E : Value → Shared → Prop} {s : Shared} {h₀ : Heap} {L c : Addr} {news : Led} {vs : List Value} {Q : Value → Shared → Prop} (N : News h₀ L s.heap news) (hm : (c, ({ cls := .type "tuple", data := .seq vs.toArray } : Obj)) ∈ news) (hl : vs.length ≤ 1000)
    (h : Q (.int vs.length (s.toks + 1)) { s with toks := s.toks + 1 + 1 }) : wpAny (model prog w) A (call (.builtin "len") [.ref c]) Q E s :=
  len_tuple (N.isTup hm) (by rw [List.size_toArray]; omega) (by rw [List.size_toArray]; exact h)
end Mine
end
section
namespace Mine
def plOf (k : Nat) : Array Nat := ((List.range 8).filter fun j => k.testBit j).toArray
def tab (led : Bool) (k : Nat) : SetTable := { mask := 7, place := plOf k, dummies := #[], finger := 0, led := led, moves := 0, plain := true }
def slotAt (pl : Array Nat) : Nat → Nat
  | 0 => 0
  | i + 1 => pl.getD i 0 + 1
theorem below_slotAt : ∀ k, k < 256 → ∀ i, i < 9 → i ≤ (plOf k).size → SetTable.below (plOf k) (slotAt (plOf k) i) = i := by decide +kernel
def freeOk (led : Bool) (k : Nat) (h : Nat) : Bool := match (tab led k).freeSlot (hashInt (h : Int)) with
  | some (j, false) => decide (k + 2 ^ j < 256) && decide (((tab led k).put j).1 = tab led (k + 2 ^ j)) && decide ((plOf (k + 2 ^ j)).size = (plOf k).size + 1) && (tab led (k + 2 ^ j)).fits ((plOf k).size + 1) && !(tab led (k + 2 ^ j)).tooFull
  | _ => false
theorem free_all : ∀ led : Bool, ∀ k, k < 256 → (plOf k).size ≤ 3 → ∀ h, h < 17 → freeOk led k h = true := by decide +kernel
end Mine
namespace Mine
def setO (es : Array (Int × Value)) (ep : Nat) (led : Bool) (k : Nat) : Obj := { cls := .type "set", dict := none, data := .set es ep (tab led k), slots := #[] }
def SetIs (prog : Program) (w : World) (h : Heap) (a : Addr) (S : Int → Bool) (n : Nat) (led : Bool) : Prop :=
  ∃ es ep k, h.get? a = some (setO es ep led k) ∧ ElemsOf (intKind prog w) es.toList ∧ (∀ k', S k' = true ↔ ∃ e ∈ es.toList, (intKind prog w).is k' e.2 = true) ∧ k < 256 ∧ (plOf k).size = es.size ∧ es.size = n
theorem fits_tab {led : Bool} {k n : Nat} (h : (plOf k).size = n) (h4 : n ≤ 7) : (tab led k).fits n = true := by
  simp [SetTable.fits, tab, SetTable.fill, h, h4]
theorem lay_small {led : Bool} {k : Nat} {es : Array (Int × Value)} {x : Int} {v : Value} (hk : k < 256) (hs : (plOf k).size = es.size) (h3 : es.size ≤ 3) (h1 : 1 ≤ x) (h16 : x ≤ 16) :
    ∃ p k', layNew (tab led k) es (hashInt x) v = (SetTable.insertAt es p (hashInt x, v), tab led k', false, false) ∧ k' < 256 ∧ (plOf k').size = es.size + 1 ∧ (tab led k').tooFull = false := by
  obtain ⟨n, rfl⟩ := Int.eq_ofNat_of_zero_le (show 0 ≤ x by omega)
  have hf := free_all led k hk (by omega) n (by omega)
  unfold freeOk at hf
  split at hf
  · rename_i j hj
    simp only [Bool.and_eq_true, decide_eq_true_eq, Bool.not_eq_true'] at hf
    obtain ⟨⟨⟨⟨f1, f2⟩, f3⟩, f4⟩, f5⟩ := hf
    refine ⟨((tab led k).put j).2, k + 2 ^ j, ?_, f1, by rw [f3, hs], f5⟩
    unfold layNew
    rw [hj]
    have hz : (SetTable.insertAt es ((tab led k).put j).2 (hashInt (n : Int), v)).size = es.size + 1 := by
      rw [← Array.length_toList, (SetTable.insertAt_perm es _ _).length_eq]; simp
    dsimp only
    rw [hz, f2, ← hs]
    unfold SetTable.orStandIn
    rw [if_pos f4, f4]
    rfl
  · simp at hf
section
variable {prog : Program} {w : World} {A : Around} {E : Value → Shared → Prop} {s : Shared}
theorem add_small {a : Addr} {S : Int → Bool} {n : Nat} {x : Int} {u : Tok} {led : Bool} {Q : Bool → Shared → Prop} (hI : SetIs prog w s.heap a S n led) (h3 : n ≤ 3) (h1 : 1 ≤ x) (h16 : x ≤ 16)
    (h : ∀ b h', Heap.SameBut a s.heap h' → SetIs prog w h' a (fun k' => S k' || decide (k' = x)) (if S x then n else n + 1) led → Q b { s with heap := h' }) :
    wpAny (model prog w) A (setAddHashed a (.int x u) (hashInt x)) Q E s := by
  obtain ⟨es, ep, k, ho, hel, hmem, hk, hp, hn⟩ := hI
  have hf : (tab led k).fits es.size = true := fits_tab hp (by omega)
  have hkey : (intKind prog w).is x (.int x u) = true := intKind_is _ _ _ _
  have hsc : (Value.int x u).scannable = true := rfl
  unfold setAddHashed setAddHashedIn
  refine wpAny_holding (wpAny_bind (wpAny_setState_of ho rfl hf ?_))
  dsimp only
  rw [byScan_of hsc (by unfold scanBound; omega) hel]
  simp only [↓reduceIte]
  unfold setAddByScan
  refine wpAny_bind ?_
  refine wpAny_bind (wpAny_rule ?_)
  refine wpAny_bind (wpAny_setScan_of (knd := intKind prog w) (k := x) hkey ho rfl hf hel ?_)
  cases hr : List.findIdx? (fun e => (intKind prog w).is x e.2) es.toList with
  | some j =>
    dsimp only
    obtain ⟨hj, hpj, _⟩ := List.findIdx?_eq_some_iff_getElem.mp hr
    have hSk : S x = true := (hmem x).mpr ⟨es.toList[j], List.getElem_mem hj, hpj⟩
    refine wpAny_pure (wpAny_pure ?_)
    have e : s = { s with heap := s.heap } := by cases s; rfl
    rw [e]
    refine h _ s.heap (Heap.SameBut.refl a s.heap) ⟨es, ep, k, ho, hel, fun k' => ?_, hk, hp, by rw [hSk]; exact hn⟩
    rw [Bool.or_eq_true, decide_eq_true_eq, ← hmem k']
    exact ⟨fun hk => hk.elim id (fun e => e ▸ hSk), .inl⟩
  | none =>
    dsimp only
    have hSk : S x = false := by
      cases hk : S x with
      | false => rfl
      | true => obtain ⟨e, he, hp⟩ := (hmem x).mp hk; have := List.findIdx?_eq_none_iff.mp hr e he; rw [hp] at this; exact Bool.noConfusion this
    obtain ⟨p, k', hlay, hk', hp', htf⟩ := lay_small (led := led) (v := .int x u) hk hp (by omega) h1 h16
    have hperm := SetTable.insertAt_perm es p (hashInt x, Value.int x u)
    rw [Array.toList_push] at hperm
    show wpAny _ _ (match layNew (tab led k) es (hashInt x) (.int x u) with | _ => _) _ _ _
    rw [hlay]
    dsimp only
    refine wpAny_bind (wpAny_of_eq (a := ()) rfl ?_)
    rw [hashByValue_scannable 8 hsc]
    show wpAny _ _ (pure true >>= _) _ _ _
    refine wpAny_bind (wpAny_pure ?_)
    simp only [↓reduceIte]
    have hz : (SetTable.insertAt es p (hashInt x, Value.int x u)).size = es.size + 1 := by
      rw [← Array.length_toList, hperm.length_eq]; simp
    refine wpAny_bind (wpAny_storeSet_of ho rfl ?_ (by rw [hz, sizeLine_eq]; omega))
    rw [if_neg (by rw [htf]; simp)]
    refine wpAny_pure (wpAny_pure ?_)
    refine h _ _ (Heap.SameBut.update ..) ⟨_, ep + 1, k', ?_, (hel.push hkey hsc).perm hperm, mem_push_iff hkey hmem hperm, hk', by rw [hz]; exact hp', by rw [hz, hSk, hn]; rfl⟩
    have := Heap.get?_update_self (Obj.putSet (SetTable.insertAt es p (hashInt x, Value.int x u)) (tab led k')) ho (by rw [putSet_of _ _ (o := setO es ep led k) rfl]; rfl)
    rw [putSet_of _ _ (o := setO es ep led k) rfl] at this; exact this
end
end Mine
end
section
namespace Mine
section
variable {prog : Program} {w : World} {A : Around} {E : Value → Shared → Prop} {s : Shared}
theorem SetIs.at' {h h' : Heap} {a : Addr} {S : Int → Bool} {n : Nat} {led : Bool} (x : SetIs prog w h a S n led) (e : ∀ o, h.get? a = some o → h'.get? a = some o) : SetIs prog w h' a S n led := by
  obtain ⟨es, ep, k, ho, r⟩ := x
  exact ⟨es, ep, k, e _ ho, r⟩
theorem SetIs.congr {h : Heap} {a : Addr} {S S' : Int → Bool} {n n' : Nat} {led : Bool} (x : SetIs prog w h a S n led) (e : ∀ k, S k = S' k) (en : n = n') : SetIs prog w h a S' n' led := by
  have : S = S' := funext e
  subst this; subst en; exact x
theorem update_loop_tup {R : Result → Shared → Prop} {S I c : Addr} {vs : List Value} {ns : List Int} {led : Bool} (hh : A.in1.handled = none) (hi : IntsAre vs ns) (hr : ∀ n ∈ ns, 1 ≤ n ∧ n ≤ 16) (hlen : vs.length ≤ 4) (hSI : S ≠ I) (hSc : S ≠ c) (hcI : c ≠ I) :
    ∀ (k i : Nat) (s : Shared), vs.length - i = k → i ≤ vs.length → s.heap.IsTupleIter I c i → s.heap.IsTuple c vs.toArray →
      SetIs prog w s.heap S (fun k' => (firstMet (fun i => ns.getD i 0) i).any (· == k')) (firstMet (fun i => ns.getD i 0) i).length led →
      (∀ h' tk, SetIs prog w h' S (fun k' => (firstMet (fun i => ns.getD i 0) vs.length).any (· == k')) (firstMet (fun i => ns.getD i 0) vs.length).length led →
        (∀ b o, b ≠ S → b ≠ I → s.heap.get? b = some o → h'.get? b = some o) → R (.ok (.ret .none)) { s with heap := h', toks := tk }) →
      codeAny (model prog w) A (.builtin "set.update.loop" ⟨[.ref S, .ref I], []⟩) R s := by
  intro k
  induction k with
  | zero =>
    intro i s hk hil hit ht hS hR
    have hin : i = vs.length := by omega
    subst hin
    refine codeAny_builtin F.entry_set_update_loop ?_
    rw [Around.under_plainId F.plain_set_update_loop _]
    show wpAny _ A.in1 (pyNext (.ref I) >>= _) _ _ s
    refine wpAny_bind (wpAny_pyNext_tuple_end hh hit ht (by simp) fun h' he => ?_)
    show wpAny _ A.in1 (ret Value.none) _ _ _
    exact wpAny_pure (hR h' s.toks (hS.at' fun o e => he _ _ hSI e) fun b o _ h2 e => he _ _ h2 e)
  | succ k ih =>
    intro i s hk hil hit ht hS hR
    have hlt : i < vs.length := by omega
    refine codeAny_builtin F.entry_set_update_loop ?_
    rw [Around.under_plainId F.plain_set_update_loop _]
    show wpAny _ A.in1 (pyNext (.ref I) >>= _) _ _ s
    refine wpAny_bind (wpAny_pyNext_tuple_item hit ht (x := vs[i]) (by simp [hlt]) fun h₁ hit₁ hs₁ => ?_)
    obtain ⟨t, hv⟩ := IntsAre.int_at hi i vs[i] (by simp [hlt])
    have hmem : ns.getD i 0 ∈ ns := by
      have hl : i < ns.length := by have := IntsAre.length hi; omega
      rw [List.getD_eq_getElem?_getD, List.getElem?_eq_getElem hl]; exact List.getElem_mem hl
    rw [hv]
    have hS₁ : SetIs prog w h₁ S _ _ led := hS.at' (h' := h₁) fun o e => hs₁.extBut _ _ hSI e
    have ht₁ : h₁.IsTuple c vs.toArray := ht.extBut hs₁.extBut hcI
    show wpAny _ A.in1 (holding [Value.int (ns.getD i 0) t] (setAdd S (.int (ns.getD i 0) t)) >>= _) _ _ _
    refine wpAny_bind (wpAny_holding ?_)
    unfold setAdd
    refine wpAny_holding ?_
    refine wpAny_bind ((intKind prog w).pyHash (k := ns.getD i 0) (intKind_is _ _ _ _) ?_)
    have hroom : (firstMet (fun i => ns.getD i 0) i).length ≤ 3 := by have := firstMet_length_le (fun i => ns.getD i 0) i; omega
    refine add_small hS₁ hroom (hr _ hmem).1 (hr _ hmem).2 fun b h' hsb hS2 => ?_
    refine wpAny_pure ⟨plainId_quiet F.plain_set_update_loop _, ih (i + 1) _ (by omega) hlt ?_ ?_ ?_ fun h'' tk'' hS'' hk'' => ?_⟩
    · obtain ⟨o, ho, r⟩ := hit₁
      exact ⟨o, (hsb.2 _ (Ne.symm hSI)).trans ho, r⟩
    · obtain ⟨o, ho, r⟩ := ht₁
      exact ⟨o, (hsb.2 _ (Ne.symm hSc)).trans ho, r⟩
    · exact hS2.congr (fun k' => by rw [firstMet_succ, step_any]) (by rw [firstMet_succ, step_length])
    · exact hR h'' tk'' hS'' fun b o h1 h2 e => hk'' b o h1 h2 ((hsb.2 _ h1).trans (hs₁.extBut _ _ h2 e))
end
end Mine
end
section
namespace Mine.MineF
open PySem.F
theorem entry_set_iter : entryFor table "set.__iter__" = some Builtin.«frozenset.__iter__» :=
  entryFor_alias (id' := "frozenset.__iter__") (by kernel_rfl) rfl (by decide +kernel) (by kernel_rfl)
theorem owner_set_iterator : Manifest.owners.lookup (String.ofList ['r', 'o', 't', 'a', 'r', 'e', 't', 'i', '_', 't', 'e', 's'].reverse) = some Manifest.sig_set_iterator := by kernel_rfl
theorem slot_set_iterator_next : Slot "set_iterator" "__next__" "set_iterator.__next__" :=
  .of (owner := "set_iterator") (n := "__next__") (by rw [typeLookup_type, builtinLookup_eq_fast]; kernel_rfl) (by decide +kernel) (by decide +kernel) (by decide +kernel)
    (by first | exact .inl (by decide +kernel) | exact .inr (by decide +kernel)) (by rw [isSubtype_type]; kernel_rfl)
theorem entry_set_iterator_next : entryFor table "set_iterator.__next__" = some Builtin.«set_iterator.__next__» := entryFor_of_tree (by kernel_rfl)
theorem args_set_iterator_next_1 (a : Value) : argsOk "set_iterator.__next__" ⟨[a], []⟩ := by
  unfold argsOk; rw [signature?_of (id := "set_iterator.__next__") (n := ['_', '_', 't', 'x', 'e', 'n', '_', '_']) (o := ['r', 'o', 't', 'a', 'r', 'e', 't', 'i', '_', 't', 'e', 's']) (by kernel_rfl) owner_set_iterator]; kernel_rfl
end Mine.MineF
namespace Mine
theorem pick_go {α : Type} (next : Nat → Nat) : ∀ (fuel k : Nat) (left : List α) (out : Array α), fuel = left.length → (pickOrder.go next fuel k left out).size = out.size + left.length ∧ ∀ x ∈ (pickOrder.go next fuel k left out).toList, x ∈ out.toList ∨ x ∈ left
  | 0, k, left, out, h => by
    have : left = [] := List.length_eq_zero_iff.mp h.symm
    subst this
    unfold pickOrder.go
    exact ⟨rfl, fun x hx => .inl hx⟩
  | fuel + 1, k, left, out, h => by
    unfold pickOrder.go
    have hl : next k % left.length < left.length := Nat.mod_lt _ (by omega)
    rw [List.getElem?_eq_getElem hl]
    dsimp only
    obtain ⟨h1, h2⟩ := pick_go next fuel (k + 1) (left.eraseIdx (next k % left.length)) (out.push left[next k % left.length]) (by rw [List.length_eraseIdx_of_lt hl]; omega)
    refine ⟨by rw [h1, Array.size_push, List.length_eraseIdx_of_lt hl]; omega, fun x hx => ?_⟩
    rcases h2 x hx with h | h
    · rw [Array.toList_push] at h
      rcases List.mem_append.mp h with h | h
      · exact .inl h
      · rw [List.mem_singleton] at h; subst h; exact .inr (List.getElem_mem hl)
    · exact .inr (List.mem_of_mem_eraseIdx h)
theorem pick_size {α : Type} (next : Nat → Nat) (xs : Array α) : (pickOrder next xs).size = xs.size := by
  unfold pickOrder
  rw [(pick_go next xs.size 0 xs.toList #[] (by simp)).1]; simp
theorem pick_mem {α : Type} (next : Nat → Nat) (xs : Array α) : ∀ x ∈ (pickOrder next xs).toList, x ∈ xs.toList := by
  intro x hx
  unfold pickOrder at hx
  rcases (pick_go next xs.size 0 xs.toList #[] (by simp)).2 x hx with h | h
  · simp at h
  · exact h
def walked (w : World) (a ep : Nat) (es : Array (Int × Value)) : Array (Int × Value) := if w.params.followText "set-order" = true then pickOrder (w.params.setOrder a ep) es else es
theorem walked_size (w : World) (a ep : Nat) (es : Array (Int × Value)) : (walked w a ep es).size = es.size := by
  unfold walked; split
  · exact pick_size _ _
  · rfl
theorem walked_mem (w : World) (a ep : Nat) (es : Array (Int × Value)) : ∀ x ∈ (walked w a ep es).toList, x ∈ es.toList := by
  unfold walked; split
  · exact pick_mem _ _
  · exact fun _ h => h
def slotNow (w : World) (k i : Nat) : Nat := if w.params.followText "set-order" = true then 0 else slotAt (plOf k) i
def IsSetIter (w : World) (h : Heap) (it a k i n ep : Nat) : Prop :=
  ∃ o, h.get? it = some o ∧ o.cls = .type "set_iterator" ∧ o.data = .fields #[.int (slotNow w k i) 0, .int i 0, .ref a, .int n 0, .int ep 0]
theorem IsSetIter.typeIs {w : World} {s : Shared} {it a k i n ep : Nat} (x : IsSetIter w s.heap it a k i n ep) : s.TypeIs (.ref it) "set_iterator" := let ⟨o, ho, hc, _⟩ := x; ⟨o, ho, hc⟩
section
variable {prog : Program} {w : World} {A : Around} {E : Value → Shared → Prop} {s : Shared}
theorem setNext_item {a : Addr} {es : Array (Int × Value)} {ep k i : Nat} {Q : Option (Value × Nat) → Shared → Prop} (ho : s.heap.get? a = some (setO es ep (!(w.params.followText "set-order")) k)) (hk : k < 256) (hp : (plOf k).size = es.size) (h7 : es.size ≤ 7) (hi : i < es.size)
    (h : ∀ x, (walked w a ep es)[i]? = some x → Q (some (x.2, slotNow w k (i + 1))) s) : wpAny (model prog w) A (setNext a (slotNow w k i) i ep) Q E s := by
  have hf : (tab (!(w.params.followText "set-order")) k).fits es.size = true := fits_tab hp (by omega)
  have hw := walked_size w a ep es
  obtain ⟨x, hx⟩ : ∃ x, (walked w a ep es)[i]? = some x := ⟨_, Array.getElem?_eq_getElem (by omega)⟩
  unfold setNext
  refine wpAny_bind (wpAny_setState_of ho rfl hf ?_)
  unfold setsByText
  refine wpAny_bind (wpAny_bind (wpAny_askSetting (wpAny_pure ?_)))
  show wpAny _ _ (if w.params.followText "set-order" = true then _ else _) _ _ _
  cases hb : w.params.followText "set-order" with
  | true =>
    rw [if_pos rfl, if_neg (by simp)]
    unfold setWalk
    refine wpAny_bind (wpAny_bind (wpAny_setState_of ho rfl hf ?_))
    unfold setsByText
    refine wpAny_bind (wpAny_bind (wpAny_askSetting (wpAny_pure ?_)))
    show wpAny _ _ (if w.params.followText "set-order" = true then _ else _) _ _ _
    rw [hb, if_pos rfl]
    refine wpAny_bind (wpAny_askSetting (wpAny_pure (wpAny_pure ?_)))
    have hx' := hx
    unfold walked at hx'
    rw [hb, if_pos rfl] at hx'
    show Q (Option.map _ (pickOrder (w.params.setOrder a ep) es)[i]?) s
    rw [hx']
    have := h x hx
    unfold slotNow at this ⊢
    rw [hb] at this ⊢
    exact this
  | false =>
    rw [if_neg (by simp)]
    have hx' := hx
    unfold walked at hx'
    rw [hb, if_neg (by simp)] at hx'
    have hbl : SetTable.below (plOf k) (slotAt (plOf k) i) = i := below_slotAt k hk i (by omega) (by omega)
    have hsl : slotNow w k i = slotAt (plOf k) i := by unfold slotNow; rw [hb]; rfl
    have hsl' : slotNow w k (i + 1) = (plOf k).getD i 0 + 1 := by unfold slotNow; rw [hb]; rfl
    show wpAny _ _ (if false = true then _ else _) _ _ _
    rw [if_neg Bool.false_ne_true]
    show wpAny _ _ (_ >>= _) _ _ _
    refine wpAny_bind (wpAny_of_eq (a := ()) rfl ?_)
    show wpAny _ _ (pure (match es[SetTable.below (plOf k) (slotNow w k i)]?, (plOf k)[SetTable.below (plOf k) (slotNow w k i)]? with | some (_, x), some j => some (x, j + 1) | _, _ => none)) _ _ _
    rw [hsl, hbl, hx', Array.getElem?_eq_getElem (show i < (plOf k).size by omega)]
    refine wpAny_pure ?_
    have := h x hx
    rw [hsl', Array.getD_eq_getD_getElem?, Array.getElem?_eq_getElem (show i < (plOf k).size by omega)] at this
    exact this
theorem setNext_end {a : Addr} {es : Array (Int × Value)} {ep k : Nat} {Q : Option (Value × Nat) → Shared → Prop} (ho : s.heap.get? a = some (setO es ep (!(w.params.followText "set-order")) k)) (hk : k < 256) (hp : (plOf k).size = es.size) (h7 : es.size ≤ 7)
    (h : Q none s) : wpAny (model prog w) A (setNext a (slotNow w k es.size) es.size ep) Q E s := by
  have hf : (tab (!(w.params.followText "set-order")) k).fits es.size = true := fits_tab hp (by omega)
  have hw := walked_size w a ep es
  have hx : (walked w a ep es)[es.size]? = none := Array.getElem?_eq_none (by omega)
  unfold setNext
  refine wpAny_bind (wpAny_setState_of ho rfl hf ?_)
  unfold setsByText
  refine wpAny_bind (wpAny_bind (wpAny_askSetting (wpAny_pure ?_)))
  show wpAny _ _ (if w.params.followText "set-order" = true then _ else _) _ _ _
  cases hb : w.params.followText "set-order" with
  | true =>
    rw [if_pos rfl, if_neg (by simp)]
    unfold setWalk
    refine wpAny_bind (wpAny_bind (wpAny_setState_of ho rfl hf ?_))
    unfold setsByText
    refine wpAny_bind (wpAny_bind (wpAny_askSetting (wpAny_pure ?_)))
    show wpAny _ _ (if w.params.followText "set-order" = true then _ else _) _ _ _
    rw [hb, if_pos rfl]
    refine wpAny_bind (wpAny_askSetting (wpAny_pure (wpAny_pure ?_)))
    have hx' := hx
    unfold walked at hx'
    rw [hb, if_pos rfl] at hx'
    show Q (Option.map _ (pickOrder (w.params.setOrder a ep) es)[es.size]?) s
    rw [hx']
    exact h
  | false =>
    rw [if_neg (by simp)]
    have hbl : SetTable.below (plOf k) (slotAt (plOf k) es.size) = es.size := below_slotAt k hk es.size (by omega) (by omega)
    have hsl : slotNow w k es.size = slotAt (plOf k) es.size := by unfold slotNow; rw [hb]; rfl
    show wpAny _ _ (if false = true then _ else _) _ _ _
    rw [if_neg Bool.false_ne_true]
    show wpAny _ _ (_ >>= _) _ _ _
    refine wpAny_bind (wpAny_of_eq (a := ()) rfl ?_)
    show wpAny _ _ (pure (match es[SetTable.below (plOf k) (slotNow w k es.size)]?, (plOf k)[SetTable.below (plOf k) (slotNow w k es.size)]? with | some (_, x), some j => some (x, j + 1) | _, _ => none)) _ _ _
    rw [hsl, hbl, Array.getElem?_eq_none (Nat.le_refl es.size)]
    exact wpAny_pure h
theorem iter_set {a : Addr} {es : Array (Int × Value)} {ep k : Nat} {Q : Value → Shared → Prop} (ho : s.heap.get? a = some (setO es ep (!(w.params.followText "set-order")) k)) (hp : (plOf k).size = es.size) (h7 : es.size ≤ 7)
    (hQ : Q (.ref s.heap.objs.size) { s with heap := s.heap.push { cls := .type "set_iterator", data := .fields #[.int (slotNow w k 0) 0, .int (0 : Nat) 0, .ref a, .int es.size 0, .int ep 0] } }) :
    wpAny (model prog w) A (pyIter (.ref a)) Q E s := by
  have hf : (tab (!(w.params.followText "set-order")) k).fits es.size = true := fits_tab hp (by omega)
  have hT : s.TypeIs (.ref a) "set" := ⟨_, ho, rfl⟩
  refine wpAny_pyIter_slot hT F.slot_set_iter (wpAny_call_entry F.slot_set_iter hT MineF.entry_set_iter ?_ (F.args_set_iter_1 _))
  unfold Builtin.«frozenset.__iter__» Builtin.Frozenset.slot0 slotArgs
  simp only [List.isEmpty_nil, Bool.not_true, Bool.false_eq_true, ↓reduceIte, bind_assoc, List.length_nil, bne_self_eq_false]
  unfold Builtin.Frozenset.addrOf Builtin.Frozenset.sizeOf
  refine wpAny_bind (wpAny_pure ?_)
  try dsimp only
  refine wpAny_bind (wpAny_pure ?_)
  refine wpAny_bind (wpAny_bind (wpAny_setEntries_of ho rfl hf (wpAny_pure ?_)))
  refine wpAny_bind (m := setDrawn a) ?_
  unfold setDrawn
  refine wpAny_bind (wpAny_setState_of ho rfl hf ?_)
  unfold setsByText
  refine wpAny_bind (wpAny_bind (wpAny_askSetting (wpAny_pure (wpAny_pure ?_))))
  have hdr : (!(w.params.followText "set-order") && false) = false := by rw [Bool.and_false]
  show wpAny _ _ (if (!(w.params.followText "set-order") && false) = true then _ else _) _ _ _
  rw [hdr, if_neg Bool.false_ne_true]
  refine wpAny_bind (wpAny_pure ?_)
  refine wpAny_bind (wpAny_setEpoch_of ho rfl hf ?_)
  have hsl : slotNow w k 0 = 0 := by unfold slotNow; split <;> rfl
  rw [hsl] at hQ
  exact wpAny_bind (wpAny_newObj_type (wpAny_pure ⟨_, rfl, "set_iterator", _, ⟨_, Heap.get?_push_size _ rfl, rfl⟩, MineF.slot_set_iterator_next.lookup, hQ⟩))
end
end Mine
end
section
namespace Mine
section
variable {prog : Program} {w : World} {A : Around} {E : Value → Shared → Prop} {s : Shared}
theorem next_set_item {it a : Addr} {es : Array (Int × Value)} {ep k i : Nat} {Q : Option Value → Shared → Prop} (hit : IsSetIter w s.heap it a k i es.size ep) (ho : s.heap.get? a = some (setO es ep (!(w.params.followText "set-order")) k)) (hk : k < 256) (hp : (plOf k).size = es.size) (h7 : es.size ≤ 7) (hi : i < es.size)
    (hQ : ∀ x h', (walked w a ep es)[i]? = some x → IsSetIter w h' it a k (i + 1) es.size ep → Heap.SameBut it s.heap h' → Q (some x.2) { s with heap := h' }) :
    wpAny (model prog w) A (pyNext (.ref it)) Q E s := by
  have hf : (tab (!(w.params.followText "set-order")) k).fits es.size = true := fits_tab hp (by omega)
  obtain ⟨o, hoi, hc, hd⟩ := id hit
  unfold pyNext
  refine wpAny_bind (wpAny_attempt (wpAny_callSpecial?_slot (name := Str.ofString "__next__") hit.typeIs MineF.slot_set_iterator_next
    (wpAny_call_entry MineF.slot_set_iterator_next hit.typeIs MineF.entry_set_iterator_next ?_ (MineF.args_set_iterator_next_1 _))))
  unfold Builtin.«set_iterator.__next__»
  refine wpAny_bind (m := slotArgs "__next__" 0 _) (wpAny_of_eq (a := (Value.ref it, [])) rfl ?_)
  refine wpAny_bind (wpAny_fieldsOf hoi hd ?_)
  show wpAny _ _ (setEntries a >>= _) _ _ s
  refine wpAny_bind (wpAny_setEntries_of ho rfl hf ?_)
  rw [if_neg (by simp)]
  show wpAny _ _ (setNext a (slotNow w k i) i ep >>= _) _ _ s
  refine wpAny_bind (setNext_item ho hk hp h7 hi fun x hx => ?_)
  show wpAny _ _ (setField (.ref it) 0 (rawInt (slotNow w k (i + 1))) >>= _) _ _ s
  refine wpAny_bind (wpAny_setField hoi hd (by simp) ?_)
  have h1 : (s.heap.update it (Obj.mapFields (·.setIfInBounds 0 (rawInt (slotNow w k (i + 1)))))).get? it = some (Obj.mapFields (·.setIfInBounds 0 (rawInt (slotNow w k (i + 1)))) o) :=
    Heap.get?_update_self _ hoi (Obj.isFreed_of_fields (Obj.data_mapFields hd _))
  refine wpAny_bind (wpAny_setField h1 (Obj.data_mapFields hd _) (by simp) ?_)
  refine wpAny_pure ⟨x.2, rfl, wpAny_pure (hQ x _ hx ⟨_, Heap.get?_update_self _ h1 (Obj.isFreed_of_fields (Obj.data_mapFields (Obj.data_mapFields hd _) _)), ?_, ?_⟩ ((Heap.SameBut.update ..).trans (Heap.SameBut.update ..)))⟩
  · rw [Obj.cls_mapFields, Obj.cls_mapFields]; exact hc
  · rw [Obj.data_mapFields (Obj.data_mapFields hd _)]; simp [rawInt]
theorem next_set_end {it a : Addr} {es : Array (Int × Value)} {ep k : Nat} {Q : Option Value → Shared → Prop} (hh : A.handled = none) (hit : IsSetIter w s.heap it a k es.size es.size ep) (ho : s.heap.get? a = some (setO es ep (!(w.params.followText "set-order")) k)) (hk : k < 256) (hp : (plOf k).size = es.size) (h7 : es.size ≤ 7)
    (hQ : ∀ h', Heap.ExtBut it s.heap h' → Q none { s with heap := h' }) :
    wpAny (model prog w) A (pyNext (.ref it)) Q E s := by
  have hf : (tab (!(w.params.followText "set-order")) k).fits es.size = true := fits_tab hp (by omega)
  obtain ⟨o, hoi, hc, hd⟩ := id hit
  unfold pyNext
  refine wpAny_bind (wpAny_attempt (wpAny_callSpecial?_slot (name := Str.ofString "__next__") hit.typeIs MineF.slot_set_iterator_next
    (wpAny_call_entry MineF.slot_set_iterator_next hit.typeIs MineF.entry_set_iterator_next ?_ (MineF.args_set_iterator_next_1 _))))
  unfold Builtin.«set_iterator.__next__»
  refine wpAny_bind (m := slotArgs "__next__" 0 _) (wpAny_of_eq (a := (Value.ref it, [])) rfl ?_)
  refine wpAny_bind (wpAny_fieldsOf hoi hd ?_)
  show wpAny _ _ (setEntries a >>= _) _ _ s
  refine wpAny_bind (wpAny_setEntries_of ho rfl hf ?_)
  rw [if_neg (by simp)]
  show wpAny _ _ (setNext a (slotNow w k es.size) es.size ep >>= _) _ _ s
  refine wpAny_bind (setNext_end ho hk hp h7 ?_)
  show wpAny _ _ (setField (.ref it) 2 .none >>= _) _ _ s
  refine wpAny_bind (wpAny_setField hoi hd (by simp) ?_)
  show wpAny _ _ (newExc (.type "StopIteration") [] >>= _) _ _ _
  refine wpAny_bind ?_
  simp only [newExc, newTuple]
  refine wpAny_bind (wpAny_newObj_type ?_ (by size_fits))
  refine wpAny_bind (m := firstArgMember _ _) (wpAny_of_eq (a := Value.none) (by first | rfl | (simp only [firstArgMember]; rfl)) ?_)
  refine wpAny_newObj_type ?_ (by size_fits)
  simp only [raiseNew]
  refine wpAny_bind (wpAny_handled ?_)
  first | rw [show A.in1.handled = none from hh] | rw [hh]
  refine wpAny_bind (wpAny_pure (wpAny_throw ?_))
  refine wpAny_bind (wpAny_isInstance (T := "StopIteration") (b := true) ⟨_, Heap.get?_push_size _ rfl, rfl⟩ isSubtype_stop ?_)
  exact wpAny_pure (hQ _ (((Heap.SameBut.update ..).extBut.push _).push _))
end
end Mine
end
section
namespace Mine.MineF
theorem sub_tuple_set : isSubtype (.type "tuple") (.type "set") = pure false := by rw [isSubtype_type]; kernel_rfl
theorem sub_tuple_frozenset : isSubtype (.type "tuple") (.type "frozenset") = pure false := by rw [isSubtype_type]; kernel_rfl
end Mine.MineF
namespace Mine.MineF
section
variable {prog : Program} {w : World} {A : Around} {E : Value → Shared → Prop} {s : Shared}
theorem set_new_1 (a : Value) {Q₁ : Value → Shared → Prop}
    (h : Q₁ (.ref s.heap.objs.size) { s with heap := s.heap.push (Mine.setO #[] 0 (!(w.params.followText "set-order")) 0) }) :
    codeAny (model prog w) A (.call (.builtin "set.__new__") ⟨[.type "set", a], []⟩) (wants Q₁ E) s := by
  refine codeAny_of_tree ?_
  show wpAny _ A.in1 (do checkBuiltinCall "set.__new__" ⟨[.type "set", a], []⟩; again (.builtin "set.__new__" ⟨[.type "set", a], []⟩)) _ _ s
  refine wpAny_bind (wpAny_of_eq (F.newCall_set_1 a) (wpAny_pure ⟨plainId_quiet F.plain_set_new _, codeAny_builtin F.entry_set_new ?_⟩))
  rw [Around.under_plainId F.plain_set_new _]
  unfold Builtin.«set.__new__» Builtin.Frozenset.newClass
  have hsub := sub_set_self
  obtain ⟨hp, g, d, tk, os⟩ := s
  dsimp only
  wp_walk
  refine wpAny_askSetting (wpAny_pure ?_)
  dsimp only
  simp only [newObj]
  refine wpAny_bind (wpAny_alloc (wpAny_pure ?_))
  exact wpAny_pure h
theorem call_set_tup {c : Addr} {vs : List Value} {ns : List Int} {Q : Value → Shared → Prop}
    (hh : A.handled = none) (hl : s.heap.IsTuple c vs.toArray) (hi : PyProof.Rows.IntsAre vs ns) (hr : ∀ n ∈ ns, 1 ≤ n ∧ n ≤ 16) (hlen : vs.length ≤ 4)
    (h : ∀ (h' : Heap) (tk : Nat), Mine.SetIs prog w h' s.heap.objs.size (fun k' => (PyProof.Rows.firstMet (fun i => ns.getD i 0) vs.length).any (· == k')) (PyProof.Rows.firstMet (fun i => ns.getD i 0) vs.length).length (!(w.params.followText "set-order")) →
      (∀ b o, b < s.heap.objs.size → s.heap.get? b = some o → h'.get? b = some o) → Q (.ref s.heap.objs.size) { s with heap := h', toks := tk }) :
    wpAny (model prog w) A (call (.type "set") [.ref c]) Q E s := by
  obtain ⟨cc, tl, hmro⟩ := F.called_set.mro
  have hmade := F.called_set.made
  have hsub := F.called_set.sub
  refine wpAny_call (codeAny_of_tree ?_)
  show wpAny _ _ (callAny (.type "set") _) _ _ _
  refine wpAny_pure ⟨Code.quiet_builtin _ (by decide +kernel), codeAny_builtin F.entry_type_call ?_⟩
  rw [Around.under_plain (weight_type_call_type "set" [.ref c] []) rfl]
  have h1 := F.called_set.notType
  have h2 := F.called_set.canCreate
  have hct := F.typeCall_set_1 (.ref c)
  repeat (any_goals (first | assumption | wp_step))
  refine codeAny_mono (set_new_1 (.ref c) (E := E) (Q₁ := fun obj s₁ => obj = .ref s.heap.objs.size ∧ s₁ = { s with heap := s.heap.push (Mine.setO #[] 0 (!(w.params.followText "set-order")) 0) }) ⟨rfl, rfl⟩) fun r s₁ hr₁ => ?_
  cases r with
  | error e => exact hr₁
  | ok fl =>
    cases fl with
    | ret obj =>
      obtain ⟨rfl, rfl⟩ := hr₁
      generalize hledE : (!(w.params.followText "set-order")) = led at h ⊢
      have hS : (s.heap.push (Mine.setO #[] 0 led 0)).get? s.heap.objs.size = some (Mine.setO #[] 0 led 0) := Heap.get?_push_size _ rfl
      have hT : Shared.TypeIs { s with heap := s.heap.push (Mine.setO #[] 0 led 0) } (.ref s.heap.objs.size) "set" := ⟨_, hS, rfl⟩
      have hli := F.called_set.init.lookup
      have hbi := F.called_set.init.bind (.ref s.heap.objs.size)
      repeat (any_goals (first | assumption | wp_step))
      refine codeAny_mono (codeAny_call_builtin (R := wants (fun r s₂ => r = .none ∧ ∃ h' tk, s₂ = { s with heap := h', toks := tk } ∧
          Mine.SetIs prog w h' s.heap.objs.size (fun k' => (PyProof.Rows.firstMet (fun i => ns.getD i 0) vs.length).any (· == k')) (PyProof.Rows.firstMet (fun i => ns.getD i 0) vs.length).length led ∧
          (∀ b o, b < s.heap.objs.size → s.heap.get? b = some o → h'.get? b = some o)) E) F.called_set.init.plain F.entry_set_init (check_set_init_1 hT ?_)) fun r₂ s₂ hr₂ => ?_
      · obtain ⟨ol, hol, hcl, nl, hdl⟩ := hl
        obtain ⟨ocls, odict, odata, oslots⟩ := ol
        simp only at hcl hdl
        subst hcl; subst hdl
        have hol' : (s.heap.push (Mine.setO #[] 0 led 0)).get? c = some { cls := .type "tuple", dict := odict, data := .seq vs.toArray nl, slots := oslots } := Heap.get?_push_of_some _ hol
        have hsls := sub_tuple_set
        have hslf := sub_tuple_frozenset
        have hne : (Value.type "tuple" == Value.type "dict") = false := by decide
        have hl1 : (s.heap.push (Mine.setO #[] 0 led 0)).IsTuple c vs.toArray := ⟨_, hol', rfl, nl, rfl⟩
        unfold Builtin.«set.__init__» noKeywords Builtin.Frozenset.updateFrom
        generalize hPI : pyIter = PI
        wp_walk
        subst hPI
        refine wpAny_pyIter_tuple hl1 ?_
        refine wpAny_bind (wpAny_runValue ?_)
        have hlS : c < s.heap.objs.size := Heap.lt_size hol
        have hh3 : A.in1.in1.in1.handled = none := by simp [hh]
        have hsz : (s.heap.push (Mine.setO #[] 0 led 0)).objs.size = s.heap.objs.size + 1 := Heap.size_push _ _
        refine Mine.update_loop_tup (led := led) (vs := vs) (ns := ns) (c := c) hh3 hi hr hlen (Nat.ne_of_lt (Nat.lt_of_lt_of_eq (Nat.lt_succ_self _) hsz.symm)) (Nat.ne_of_gt hlS) (Nat.ne_of_lt (Nat.lt_of_lt_of_eq (Nat.lt_succ_of_lt hlS) hsz.symm)) (vs.length - 0) 0 _ (by omega) (Nat.zero_le _)
          ⟨_, Heap.get?_push_size _ rfl, rfl, rfl⟩ (hl1.push _) ?hS0 ?hR
        case hS0 =>
          exact ⟨#[], 0, 0, Heap.get?_push_of_some _ hS, (fun e he => by simp at he), fun k => by simp [firstMet_zero], by decide, by decide +kernel, rfl⟩
        case hR =>
          intro h' tk' hS' hk'
          show wpAny _ _ _ _ _ _
          refine wpAny_pure ?_
          show wpAny _ _ (ret Value.none) _ _ _
          refine wpAny_pure ⟨rfl, h', tk', rfl, hS', fun b o hb e => ?_⟩
          refine hk' b o (Nat.ne_of_lt hb) ?_ (Heap.get?_push_of_some _ (Heap.get?_push_of_some _ e))
          exact Nat.ne_of_lt (Nat.lt_of_lt_of_eq (Nat.lt_succ_of_lt hb) hsz.symm)
      · cases r₂ with
        | error e => exact hr₂
        | ok fl₂ =>
          cases fl₂ with
          | ret r =>
            obtain ⟨rfl, h', tk, rfl, hS', hk'⟩ := hr₂
            repeat (any_goals (first | assumption | wp_step))
            exact h _ _ hS' hk'
          | _ => exact hr₂.elim
    | _ => exact hr₁.elim
end
end Mine.MineF
end
section
namespace Mine.MineF
theorem slot_set_iterator_iter : Slot "set_iterator" "__iter__" "set_iterator.__iter__" :=
  .of (owner := "set_iterator") (n := "__iter__") (by rw [typeLookup_type, builtinLookup_eq_fast]; kernel_rfl) (by decide +kernel) (by decide +kernel) (by decide +kernel)
    (by first | exact .inl (by decide +kernel) | exact .inr (by decide +kernel)) (by rw [isSubtype_type]; kernel_rfl)
theorem args_set_iterator_iter_1 (a : Value) : argsOk "set_iterator.__iter__" ⟨[a], []⟩ := by
  unfold argsOk; rw [signature?_of (id := "set_iterator.__iter__") (n := ['_', '_', 'r', 'e', 't', 'i', '_', '_']) (o := ['r', 'o', 't', 'a', 'r', 'e', 't', 'i', '_', 't', 'e', 's']) (by kernel_rfl) owner_set_iterator]; kernel_rfl
theorem entry_set_iterator_iter : entryFor table "set_iterator.__iter__" = some Builtin.«dict_keyiterator.__iter__» :=
  entryFor_alias (id' := "dict_keyiterator.__iter__") (by kernel_rfl) rfl (by decide +kernel) (by kernel_rfl)
theorem set_len : typeLookup (.type "set") "__len__" = pure (some (.builtin "set.__len__")) := by rw [typeLookup_type, builtinLookup_eq_fast]; kernel_rfl
end Mine.MineF
namespace Mine
section
variable {prog : Program} {w : World} {A : Around} {E : Value → Shared → Prop} {s : Shared}
theorem iter_setiter {it a k i n ep : Nat} {Q : Value → Shared → Prop} (hit : IsSetIter w s.heap it a k i n ep) (h : Q (.ref it) s) : wpAny (model prog w) A (pyIter (.ref it)) Q E s := by
  refine wpAny_pyIter_slot hit.typeIs MineF.slot_set_iterator_iter (wpAny_call_entry MineF.slot_set_iterator_iter hit.typeIs MineF.entry_set_iterator_iter ?_ (MineF.args_set_iterator_iter_1 _))
  show wpAny _ _ (ret (.ref it)) _ _ s
  exact wpAny_pure ⟨_, rfl, "set_iterator", _, hit.typeIs, MineF.slot_set_iterator_next.lookup, h⟩
theorem walks_set (hh : A.handled = none) (I a : Addr) (hne : a ≠ I) (es : Array (Int × Value)) (ep k : Nat) (hk : k < 256) (hp : (plOf k).size = es.size) (h7 : es.size ≤ 7) :
    Walks prog w A I [I, a] [I] es.size (fun i v => ∃ x, (walked w a ep es)[i]? = some x ∧ v = x.2) (fun i h => IsSetIter w h I a k i es.size ep ∧ h.get? a = some (setO es ep (!(w.params.followText "set-order")) k)) where
  sub := fun b hb => by simp at hb; simp [hb]
  frame := fun _ _ _ st hk => ⟨let ⟨o, ho, r⟩ := st.1; ⟨o, hk I (by simp) o ho, r⟩, hk a (by simp) _ st.2⟩
  item := fun i s Q E hi st hQ => by
    refine next_set_item st.1 st.2 hk hp h7 hi fun x h' hx hit' hs' => ?_
    exact hQ x.2 h' s.toks ⟨x, hx, rfl⟩ ⟨hit', hs'.extBut _ _ hne st.2⟩ fun b o hb e => hs'.extBut b o (fun h => hb (by simp [h])) e
  done := fun s Q E st hQ => next_set_end hh st.1 st.2 hk hp h7 fun h' he' => hQ h' s.toks fun b o hb e => he' b o (fun h => hb (by simp [h])) e
  self := fun _ _ _ _ st hQ => iter_setiter st.1 hQ
theorem collect_set {a : Addr} {es : Array (Int × Value)} {ep k : Nat} {Q : List Value → Shared → Prop} (hh : A.handled = none) (ho : s.heap.get? a = some (setO es ep (!(w.params.followText "set-order")) k)) (hk : k < 256) (hp : (plOf k).size = es.size) (h7 : es.size ≤ 7)
    (hQ : ∀ s' acc, (∀ b o, s.heap.get? b = some o → s'.heap.get? b = some o) → s'.gens = s.gens → s'.drawn = s.drawn → s'.os = s.os → ItemsOf (fun i v => ∃ x, (walked w a ep es)[i]? = some x ∧ v = x.2) acc es.size → Q acc.toList s') :
    wpAny (model prog w) A (collect (.ref a)) Q E s := by
  have hn : es.size ≤ sizeLine := by rw [sizeLine_eq]; omega
  have ha := Heap.lt_size ho
  have hSa : s.heap.objs.size ≠ a := Nat.ne_of_gt ha
  unfold collect
  refine wpAny_bind (wpAny_runValue (codeAny_builtin F.entry_proto_collect ?_))
  rw [Around.under_plainId F.plain_proto_collect _]
  show wpAny _ A.in1 (newList [] >>= fun l => again (.builtin "list.__iadd__" ⟨[l, .ref a], []⟩)) _ _ s
  refine wpAny_bind (wpAny_newObj_type ?_)
  refine wpAny_pure ⟨plainId_quiet F.plain_list_iadd _, codeAny_builtin F.entry_list_iadd ?_⟩
  rw [Around.under_plainId F.plain_list_iadd _]
  show wpAny _ A.in1 (Builtin.List.listExtendWith (.ref s.heap.objs.size) (.ref a) (.ref s.heap.objs.size)) _ _ _
  have ho₁ : (s.heap.push { cls := .type "list", data := .seq ([] : List Value).toArray }).get? a = some (setO es ep (!(w.params.followText "set-order")) k) := Heap.get?_push_of_some _ ho
  have hT : Shared.TypeIs { s with heap := s.heap.push { cls := .type "list", data := .seq ([] : List Value).toArray } } (.ref a) "set" := ⟨_, ho₁, rfl⟩
  unfold Builtin.List.listExtendWith
  refine wpAny_bind (wpAny_typeOf hT ?_)
  have h1 : Builtin.List.listSameRef (.ref s.heap.objs.size) (.ref a) = false := by simp [Builtin.List.listSameRef, hSa]
  have h2 : (Value.type "set" == Value.type "list") = false := by decide
  have h3 : (Value.type "set" == Value.type "tuple") = false := by decide
  simp only [h1, h2, h3, Bool.or_false, Bool.false_eq_true, if_false]
  have hH1 : (s.heap.push { cls := .type "list", data := .seq ([] : List Value).toArray }).get? s.heap.objs.size = some { cls := .type "list", data := .seq ([] : List Value).toArray } := Heap.get?_push_size _ rfl
  refine wpAny_bind (iter_set (s := { s with heap := s.heap.push { cls := .type "list", data := .seq ([] : List Value).toArray } }) ho₁ hp h7 ?_)
  generalize hH : s.heap.push { cls := .type "list", data := .seq ([] : List Value).toArray } = H at ho₁ hH1 hT ⊢
  have hHs : H.objs.size = s.heap.objs.size + 1 := by rw [← hH, Heap.size_push]
  refine wpAny_bind (wpAny_holding ?_)
  dsimp only
  generalize hI : ({ cls := .type "set_iterator", data := .fields #[.int (slotNow w k 0) 0, .int (0 : Nat) 0, .ref a, .int es.size 0, .int ep 0] } : Obj) = oI
  have hT2 : Shared.TypeIs { s with heap := H.push oI } (.ref a) "set" := ⟨_, Heap.get?_push_of_some _ ho₁, rfl⟩
  unfold Builtin.List.listLengthHint
  refine wpAny_bind (wpAny_specialOf hT2 MineF.set_len ?_)
  wp_delta
  refine wpAny_bind (wpAny_isInstance hT2 (b := true) (by rw [isSubtype_type]; kernel_rfl) ?_)
  show wpAny _ A.in1 (typeOf (Value.ref a) >>= _) _ _ _
  refine wpAny_bind (wpAny_typeOf hT2 ?_)
  refine wpAny_pure ?_
  show wpAny _ A.in1 (rule "list.extend.makes-room" >>= fun _ => Builtin.List.listTouch (.ref s.heap.objs.size) >>= fun _ =>
    again (.builtin "list.extend.loop" ⟨[.ref s.heap.objs.size, .ref H.objs.size, .ref s.heap.objs.size], []⟩)) _ _ _
  refine wpAny_bind (wpAny_rule ?_)
  have hS₁ : (H.push oI).get? s.heap.objs.size = some { cls := .type "list", data := .seq ([] : List Value).toArray } := Heap.get?_push_of_some _ hH1
  refine wpAny_bind ?_
  show wpAny _ A.in1 (updateSeq s.heap.objs.size (·.push .none) >>= fun _ => updateSeq s.heap.objs.size (·.pop)) _ _ _
  refine wpAny_bind (wpAny_updateSeq hS₁ rfl ?_)
  have hS₂ := Heap.get?_update_self (Obj.mapSeq (·.push Value.none)) hS₁ rfl
  refine wpAny_updateSeq hS₂ rfl ?_
  have hS₃ := Heap.get?_update_self (Obj.mapSeq (·.pop)) hS₂ rfl
  have oth : ∀ b o, b ≠ s.heap.objs.size → (H.push oI).get? b = some o →
      (((H.push oI).update s.heap.objs.size (Obj.mapSeq (·.push Value.none))).update s.heap.objs.size (Obj.mapSeq (·.pop))).get? b = some o :=
    fun b o hb e => (Heap.get?_update_other _ _ (Ne.symm hb)).trans ((Heap.get?_update_other _ _ (Ne.symm hb)).trans e)
  have hIS : H.objs.size ≠ s.heap.objs.size := by omega
  have hSf : s.heap.objs.size ∉ [H.objs.size, a] := by simp only [List.mem_cons, List.not_mem_nil, or_false, not_or]; exact ⟨Ne.symm hIS, hSa⟩
  have W := (walks_set (prog := prog) (w := w) (A := A.in1) (by simpa using hh) H.objs.size a (Nat.ne_of_lt (Nat.lt_of_lt_of_eq (Nat.lt_succ_of_lt ha) hHs.symm)) es ep k hk hp h7).toS
  dsimp only at hS₃ oth ⊢
  generalize hG : ((H.push oI).update s.heap.objs.size (Obj.mapSeq (·.push Value.none))).update s.heap.objs.size (Obj.mapSeq (·.pop)) = G at hS₃ oth ⊢
  have st0 : IsSetIter w G H.objs.size a k 0 es.size ep ∧ G.get? a = some (setO es ep (!(w.params.followText "set-order")) k) :=
    ⟨⟨oI, oth _ _ hIS (Heap.get?_push_size _ (by rw [← hI]; rfl)), by rw [← hI], by rw [← hI]⟩, oth _ _ (Ne.symm hSa) (Heap.get?_push_of_some _ ho₁)⟩
  refine wpAny_pure ⟨plainId_quiet F.plain_extend_loop _, ?_⟩
  refine codeAny_extend_loopS W hn _ hSf _ es.size 0 _ _ _ rfl (Nat.zero_le _) st0 hS₃ (ItemsOf.nil _) fun s' acc' c' hm hS' hacc => ?_
  show wpAny _ A (load s.heap.objs.size >>= _) _ _ s'
  refine wpAny_bind (wpAny_load hS' ?_)
  refine wpAny_pure (hQ s' acc' (fun b ob e => hm.heap b ob (fun hb => ?_) (oth b ob (fun q => ?_) (Heap.get?_push_of_some _ (hH ▸ Heap.get?_push_of_some _ e)))) hm.gens hm.drawn hm.os hacc)
  · have hlt := Heap.lt_size e
    rcases List.mem_cons.mp hb with h | h
    · exact absurd hlt (h ▸ Nat.lt_irrefl _)
    · rw [List.mem_singleton.mp h, hHs] at hlt; exact absurd hlt (Nat.not_lt.mpr (Nat.le_succ _))
  · have hlt := Heap.lt_size e
    exact absurd hlt (q ▸ Nat.lt_irrefl _)
end
end Mine
end
section
namespace Mine.MineF
theorem sub_set_tuple : isSubtype (.type "set") (.type "tuple") = pure false := by rw [isSubtype_type]; kernel_rfl
section
variable {prog : Program} {w : World} {A : Around} {E : Value → Shared → Prop} {s : Shared}
theorem code_tuple_new_set {a : Addr} {es : Array (Int × Value)} {ep k : Nat} {Q₁ : Value → Shared → Prop} (hh : A.handled = none) (ho : s.heap.get? a = some (Mine.setO es ep (!(w.params.followText "set-order")) k)) (hk : k < 256) (hp : (Mine.plOf k).size = es.size) (h7 : es.size ≤ 7)
    (hQ : ∀ (s' : Shared) (acc : Array Value), (∀ b o, s.heap.get? b = some o → s'.heap.get? b = some o) → s'.gens = s.gens → s'.drawn = s.drawn → s'.os = s.os → ItemsOf (fun i v => ∃ x, (Mine.walked w a ep es)[i]? = some x ∧ v = x.2) acc es.size →
      Q₁ (.ref s'.heap.objs.size) { s' with heap := s'.heap.push { cls := .type "tuple", data := .seq acc } }) :
    codeAny (model prog w) A (.call (.builtin "tuple.__new__") ⟨[.type "tuple", .ref a], []⟩) (wants Q₁ E) s := by
  refine codeAny_of_tree ?_
  show wpAny _ A.in1 (do checkBuiltinCall "tuple.__new__" ⟨[.type "tuple", .ref a], []⟩; again (.builtin "tuple.__new__" ⟨[.type "tuple", .ref a], []⟩)) _ _ s
  refine wpAny_bind (wpAny_of_eq (F.newCall_tuple_1 _) (wpAny_pure ⟨plainId_quiet F.plain_tuple_new _, codeAny_builtin F.entry_tuple_new ?_⟩))
  rw [Around.under_plainId F.plain_tuple_new _]
  have hsub := sub_tuple_self
  have hinit := init_tuple_lookup
  have hmh := madeHere_tuple
  have hTI : s.TypeIs (.ref a) "set" := ⟨_, ho, rfl⟩
  have hh1 : A.in1.handled = none := by simpa using hh
  have hh2 : A.in1.in1.handled = none := by simpa using hh
  have hn : es.size ≤ sizeLine := by rw [sizeLine_eq]; omega
  wp_walk using wpAny_typeOf hTI, Mine.collect_set hh1 ho hk hp h7
  intro s' acc hk hg hd hos hacc
  show wpAny _ _ (Builtin.Tuple.tupleExact acc.toList.toArray >>= fun v => ret v) _ _ _
  unfold Builtin.Tuple.tupleExact
  refine wpAny_bind (wpAny_newObj_type ?_ (by show acc.toList.toArray.size ≤ sizeLine; simp only [Array.toArray_toList]; rw [hacc.1]; exact hn))
  refine wpAny_pure ?_
  have e : acc.toList.toArray = acc := by simp
  rw [e]
  exact hQ s' acc hk hg hd hos hacc
theorem call_tuple_set {a : Addr} {es : Array (Int × Value)} {ep k : Nat} {Q : Value → Shared → Prop} (hh : A.handled = none) (ho : s.heap.get? a = some (Mine.setO es ep (!(w.params.followText "set-order")) k)) (hk : k < 256) (hp : (Mine.plOf k).size = es.size) (h7 : es.size ≤ 7)
    (hQ : ∀ (s' : Shared) (acc : Array Value), (∀ b o, s.heap.get? b = some o → s'.heap.get? b = some o) → s'.gens = s.gens → s'.drawn = s.drawn → s'.os = s.os → ItemsOf (fun i v => ∃ x, (Mine.walked w a ep es)[i]? = some x ∧ v = x.2) acc es.size →
      Q (.ref s'.heap.objs.size) { s' with heap := s'.heap.push { cls := .type "tuple", data := .seq acc } }) :
    wpAny (model prog w) A (call (.type "tuple") [.ref a]) Q E s := by
  refine callType_codes (Q₁ := fun obj s₁ => s₁.TypeIs obj "tuple" ∧ Q obj s₁) F.called_tuple (F.typeCall_tuple_1 _) F.entry_object_init
    (code_tuple_new_set (by simpa using hh) ho hk hp h7 fun s' acc hk hg hd hos hacc => ⟨⟨_, Heap.get?_push_size _ rfl, rfl⟩, hQ s' acc hk hg hd hos hacc⟩) fun obj s₁ h₁ => ?_
  exact ⟨h₁.1, F.args_object_init_2 obj _, object_init_meets F.called_tuple.init.lookup F.called_tuple.made (by decide) prog w A.in1 _ s₁ ⟨h₁.1, rfl, h₁.2⟩⟩
end
end Mine.MineF
namespace Mine
theorem ints_of {prog : Program} {w : World} {S : Int → Bool} : ∀ {l : List (Int × Value)}, ElemsOf (intKind prog w) l → (∀ e ∈ l, ∀ k, (intKind prog w).is k e.2 = true → S k = true) → ∃ ns, IntsAre (l.map (·.2)) ns ∧ ∀ d ∈ ns, S d = true
  | [], _, _ => ⟨[], .nil, fun _ h => by simp at h⟩
  | e :: l, h, hS => by
    obtain ⟨ns, h1, h2⟩ := ints_of h.tail fun x hx => hS x (.tail _ hx)
    obtain ⟨⟨k, hk, _⟩, _⟩ := h.head
    have hk' : Value.isInt k e.2 = true := hk
    obtain ⟨t, ht⟩ := Value.isInt_shape hk'
    refine ⟨k :: ns, ?_, fun d hd => ?_⟩
    · rw [List.map_cons, ht]; exact .cons k t h1
    · rcases List.mem_cons.mp hd with rfl | hd
      · exact hS e (.head _) _ hk
      · exact h2 d hd
theorem items_eq {P : Array (Int × Value)} {acc : Array Value} (h : ItemsOf (fun i v => ∃ x, P[i]? = some x ∧ v = x.2) acc P.size) : acc.toList = P.toList.map (·.2) := by
  apply List.ext_getElem?
  intro i
  rw [Array.getElem?_toList, List.getElem?_map, Array.getElem?_toList]
  by_cases hi : i < acc.size
  · obtain ⟨x, hx, hv⟩ := h.2 i acc[i] (Array.getElem?_eq_getElem hi)
    rw [Array.getElem?_eq_getElem hi, hx, hv]; rfl
  · rw [Array.getElem?_eq_none (by omega), Array.getElem?_eq_none (by have := h.1; omega)]; rfl
structure SetOf (ns : List Int) (S : Int → Bool) (n : Nat) : Prop where
  le : n ≤ ns.length
  mem : ∀ k, S k = true ↔ k ∈ ns
  one : ∀ d, (∀ q ∈ ns, q = d) → ns ≠ [] → n = 1
  two : (∃ a ∈ ns, ∃ b ∈ ns, a ≠ b) → 2 ≤ n
theorem firstMet_mem (ns : List Int) (k : Int) : k ∈ firstMet (fun i => ns.getD i 0) ns.length ↔ k ∈ ns := by
  have h := firstMet_any (fun i => ns.getD i 0) ns.length k
  have e : (List.range ns.length).map (fun i => ns.getD i 0) = ns := by
    apply List.ext_getElem (by simp)
    intro i h1 h2
    simp only [List.length_map, List.length_range] at h1
    simp [List.getD_eq_getElem?_getD, List.getElem?_eq_getElem h1]
  rw [e] at h
  rw [Bool.eq_iff_iff] at h
  simpa using h
theorem setOf_ns (ns : List Int) : SetOf ns (fun k' => (firstMet (fun i => ns.getD i 0) ns.length).any (· == k')) (firstMet (fun i => ns.getD i 0) ns.length).length where
  le := firstMet_length_le _ _
  mem := fun k => by rw [← firstMet_mem ns k]; simp
  one := fun d hd hne => by
    have : ∀ i, i ≤ ns.length → 0 < i → firstMet (fun i => ns.getD i 0) i = [d] := by
      intro i
      induction i with
      | zero => intro _ h; omega
      | succ i ih =>
        intro hi _
        have hv : ns.getD i 0 = d := by
          rw [List.getD_eq_getElem?_getD, List.getElem?_eq_getElem (by omega)]
          exact hd _ (List.getElem_mem _)
        rw [firstMet_succ, hv]
        by_cases h0 : i = 0
        · subst h0; rfl
        · rw [ih (by omega) (by omega)]
          unfold step_dedup
          rw [if_pos (by simp)]
    rw [this ns.length (Nat.le_refl _) (List.length_pos_iff.mpr hne)]; rfl
  two := fun ⟨a, ha, b, hb, hab⟩ => by
    have h1 := (firstMet_mem ns a).mpr ha
    have h2 := (firstMet_mem ns b).mpr hb
    revert h1 h2
    generalize firstMet (fun i => ns.getD i 0) ns.length = l
    intro h1 h2
    match l, h1, h2 with
    | [x], h1, h2 => rw [List.mem_singleton] at h1 h2; exact absurd (h1.trans h2.symm) hab
    | _ :: _ :: _, _, _ => simp
section
variable {prog : Program} {w : World} {A : Around} {E : Value → Shared → Prop} {s : Shared} {h₀ : Heap} {L : Addr} {m : Str → Option Value} {news : Led}
theorem set_tup_N {c : Addr} {vs : List Value} {ns : List Int} {Q : Value → Shared → Prop} (F : Fr h₀ L s.heap m) (N : News h₀ L s.heap news)
    (hh : A.handled = none) (hm : (c, ({ cls := .type "tuple", data := .seq vs.toArray } : Obj)) ∈ news) (hi : IntsAre vs ns) (hr : ∀ n ∈ ns, 1 ≤ n ∧ n ≤ 16) (hlen : vs.length ≤ 4)
    (h : ∀ S h' tk sf n, Fr h₀ L h' m → News h₀ L h' news → SetOf ns sf n → SetIs prog w h' S sf n (!(w.params.followText "set-order")) →
      Q (.ref S) { s with heap := h', toks := tk }) :
    wpAny (model prog w) A (call (.type "set") [.ref c]) Q E s := by
  obtain ⟨oL, _, _, hL, _⟩ := id F.ns
  refine MineF.call_set_tup hh (show s.heap.IsTuple c vs.toArray from ⟨_, (N _ hm).1, rfl, _, rfl⟩) hi hr hlen fun h' tk hS hk => ?_
  rw [IntsAre.length hi] at hS
  refine h s.heap.objs.size h' tk _ _ ⟨F.ns.at' fun o' e => hk L o' (Heap.lt_size hL) e, fun b o' e => hk b o' (Heap.lt_size (F.keep b o' e)) (F.keep b o' e), F.above⟩ (fun p hp => ?_) (setOf_ns ns) hS
  exact ⟨hk _ _ (Heap.lt_size (N p hp).1) (N p hp).1, (N p hp).2.1, (N p hp).2.2⟩
theorem tup_set_N {a : Addr} {S : Int → Bool} {n : Nat} {Q : Value → Shared → Prop} (F : Fr h₀ L s.heap m) (N : News h₀ L s.heap news) (hh : A.handled = none)
    (hS : SetIs prog w s.heap a S n (!(w.params.followText "set-order"))) (h7 : n ≤ 7)
    (h : ∀ c h' tk vs ds, Fr h₀ L h' m → News h₀ L h' ((c, ({ cls := .type "tuple", data := .seq vs.toArray } : Obj)) :: news) → (∀ p ∈ news, p.1 < c) → IntsAre vs ds → ds.length = n → (∀ d ∈ ds, S d = true) → Q (.ref c) { s with heap := h', toks := tk }) :
    wpAny (model prog w) A (call (.type "tuple") [.ref a]) Q E s := by
  obtain ⟨es, ep, k, ho, hel, hmem, hk, hp, hn⟩ := hS
  obtain ⟨oL, _, _, hL, _⟩ := id F.ns
  refine MineF.call_tuple_set hh ho hk hp (by omega) fun s' acc hkp hg hd hos hacc => ?_
  have hw := walked_size w a ep es
  rw [← hw] at hacc
  have he := items_eq hacc
  obtain ⟨ds, i1, i2⟩ := ints_of (prog := prog) (w := w) (S := S) (l := (walked w a ep es).toList) (fun e he => hel e (walked_mem w a ep es e he)) fun e he k hk => (hmem k).mpr ⟨e, walked_mem w a ep es e he, hk⟩
  obtain ⟨h', g', d', tk', os'⟩ := s'
  have e1 : g' = s.gens := hg
  have e2 : d' = s.drawn := hd
  have e3 : os' = s.os := hos
  subst e1 e2 e3
  have F' : Fr h₀ L h' m := ⟨F.ns.at' fun o' e => hkp L o' e, fun b o' e => hkp b o' (F.keep b o' e), F.above⟩
  have N' : News h₀ L h' news := fun p hp => ⟨hkp _ _ (N p hp).1, (N p hp).2.1, (N p hp).2.2⟩
  have hlen : ds.length = n := by
    have := IntsAre.length i1
    rw [List.length_map, Array.length_toList] at this
    omega
  have hacc' : acc = ((walked w a ep es).toList.map (·.2)).toArray := by rw [← he]
  rw [hacc']
  refine h h'.objs.size (h'.push _) tk' _ ds (F'.push _) (fun p hp => ?_) (fun p hp => Heap.lt_size (N' p hp).1) i1 hlen i2
  rcases List.mem_cons.mp hp with rfl | hp
  · exact ⟨Heap.get?_push_size _ rfl, fun e => absurd F'.ns.lt (e ▸ Nat.lt_irrefl _), next_is_new F'⟩
  · exact ⟨Heap.get?_push_of_some _ (N' p hp).1, (N' p hp).2⟩
theorem tup_set_1 {a : Addr} {S : Int → Bool} {n : Nat} {ns : List Int} {d : Int} {Q : Value → Shared → Prop} (F : Fr h₀ L s.heap m) (N : News h₀ L s.heap news) (hh : A.handled = none)
    (hS : SetIs prog w s.heap a S n (!(w.params.followText "set-order"))) (hO : SetOf ns S n) (hne : ns ≠ []) (hd : ∀ q ∈ ns, q = d)
    (h : ∀ c h' tk t, Fr h₀ L h' m → News h₀ L h' ((c, ({ cls := .type "tuple", data := .seq [Value.int d t].toArray } : Obj)) :: news) → (∀ p ∈ news, p.1 < c) → Q (.ref c) { s with heap := h', toks := tk }) :
    wpAny (model prog w) A (call (.type "tuple") [.ref a]) Q E s :=
  tup_set_N F N hh hS (by rw [hO.one d hd hne]; decide) fun c h' tk vs ds F' N' lt hi hl hm => by
    have h1 := hO.one d hd hne
    have : ds = [d] := by
      match ds, hl, hm with
      | [x], _, hm => rw [hd x ((hO.mem x).mp (hm x (.head _)))]
      | [], hl, _ => simp at hl; omega
      | _ :: _ :: _, hl, _ => simp at hl; omega
    subst this
    cases hi with
    | cons _ t r => cases r with
      | nil => exact h c h' tk t F' N' lt
theorem tup_set_2 {a : Addr} {S : Int → Bool} {n : Nat} {ns : List Int} {Q : Value → Shared → Prop} (F : Fr h₀ L s.heap m) (N : News h₀ L s.heap news) (hh : A.handled = none)
    (hS : SetIs prog w s.heap a S n (!(w.params.followText "set-order"))) (hO : SetOf ns S n) (h4 : ns.length ≤ 4) (hd : ∃ a ∈ ns, ∃ b ∈ ns, a ≠ b)
    (h : ∀ c h' tk vs ds, Fr h₀ L h' m → News h₀ L h' ((c, ({ cls := .type "tuple", data := .seq vs.toArray } : Obj)) :: news) → (∀ p ∈ news, p.1 < c) → IntsAre vs ds → 2 ≤ ds.length → ds.length ≤ 4 → Q (.ref c) { s with heap := h', toks := tk }) :
    wpAny (model prog w) A (call (.type "tuple") [.ref a]) Q E s :=
  tup_set_N F N hh hS (by have := hO.le; omega) fun c h' tk vs ds F' N' lt hi hl hm => h c h' tk vs ds F' N' lt hi (by have := hO.two hd; omega) (by have := hO.le; omega)
end
end Mine
end
section
namespace Mine
inductive EntsAre (w : World) : List DictEntry → List (Str × Value) → Prop
  | nil : EntsAre w [] []
  | cons {es : List DictEntry} {kvs : List (Str × Value)} (name : Str) (v : Value) (t : Tok) : EntsAre w es kvs → EntsAre w (⟨PyData.keyHash w.params name, .str name t, v⟩ :: es) ((name, v) :: kvs)
theorem EntsAre.put {w : World} {name : Str} {v : Value} {t : Tok} : ∀ {es : List DictEntry} {kvs : List (Str × Value)}, EntsAre w es kvs → (kvs.map (·.1)).contains name = false → EntsAre w (putL name (PyData.keyHash w.params name) (.str name t) v es) (kvs ++ [(name, v)])
  | _, _, .nil, _ => .cons name v t .nil
  | _, _, .cons nm u t' r, h => by
    simp only [List.map_cons, List.contains_cons, Bool.or_eq_false_iff] at h
    unfold putL
    have hne : (Value.str nm t').isStr name = false := by
      show (nm == name) = false
      rw [beq_eq_false_iff_ne] at h ⊢
      exact Ne.symm h.1
    rw [if_neg (by rw [hne]; exact Bool.false_ne_true)]
    exact .cons nm u t' (r.put h.2)
theorem EntsAre.noRef {w : World} : ∀ {es : List DictEntry} {kvs : List (Str × Value)}, EntsAre w es kvs → es.any (·.refKey) = false
  | _, _, .nil => rfl
  | _, _, .cons nm u t' r => by rw [List.any_cons, r.noRef]; rfl
theorem EntsAre.some {w : World} {es : List DictEntry} {kvs : List (Str × Value)} (h : EntsAre w es kvs) (name : Str) : (getL name es).isSome = true := by
  unfold getL
  split
  · rfl
  · rw [h.noRef]; rfl
theorem EntsAre.get {w : World} {name : Str} {v : Value} : ∀ {es : List DictEntry} {kvs : List (Str × Value)}, EntsAre w es kvs → kvs.find? (·.1 == name) = Option.some (name, v) → getL name es = Option.some (Option.some v)
  | _, _, .nil, h => by simp at h
  | _, _, .cons nm u t' r, h => by
    rw [List.find?_cons] at h
    unfold getL
    rw [List.find?_cons]
    have hd : ((⟨PyData.keyHash w.params nm, .str nm t', u⟩ : DictEntry).key.isStr name) = (nm == name) := rfl
    rw [hd]
    dsimp only at h
    cases hq : nm == name with
    | true =>
      rw [hq] at h
      simp only [Option.some.injEq, Prod.mk.injEq] at h
      simp [h.2]
    | false =>
      rw [hq] at h
      have := r.get h
      unfold getL at this
      dsimp only
      split
      · rename_i e he; rw [he] at this; exact this
      · rename_i he; rw [he] at this; dsimp only at this; split at this <;> simp at this
theorem EntsAre.len {w : World} : ∀ {es : List DictEntry} {kvs : List (Str × Value)}, EntsAre w es kvs → es.length = kvs.length
  | _, _, .nil => rfl
  | _, _, .cons nm u t' r => by rw [List.length_cons, List.length_cons, r.len]
section
variable {prog : Program} {w : World} {A : Around} {E : Value → Shared → Prop} {s : Shared} {K : Frag} {x C dx L : Addr} {h₀ : Heap} {m : Str → Option Value} {news : Led} {es : List DictEntry} {kvs : List (Str × Value)} {n : Nat} {name : Str} {v : Value} {sl : Array (Option Value)}
theorem set_field {Q : Unit → Shared → Prop} {g : Obj → Led} {ks : List Str} (F : Fr h₀ L s.heap m) (X₀ : K.In h₀) (N : News h₀ L s.heap news) (hx : (x, (⟨.ref C, some dx, .plain, sl⟩ : Obj)) ∈ news) (hd : (dx, dictOf es n) ∈ news) (U : UpdF dx (dictOf es n) news g)
    (he : EntsAre w es kvs) (hlen : kvs.length ≤ 500) (hks : kvs.map (·.1) = ks) (hn : ks.contains name = false)
    (hs : findIn K (.ref C) "__setattr__" = some (some (.builtin "object.__setattr__"))) (hp : plainOver K C = true) (ht : takerIn K C name = some none) (hh : hasDictIn K C = true)
    (h : ∀ h' es' n', Fr h₀ L h' m → News h₀ L h' (g (dictOf es' n')) → EntsAre w es' (kvs ++ [(name, v)]) → Q () { s with heap := h', toks := s.toks + 2 }) :
    wpAny (model prog w) A (setAttr (.ref x) name v) Q E s := by
  have I := InstAt.of_news N hx hd
  obtain ⟨pre, post, rfl, hg, a, b⟩ := U.split
  have he' := he.put (name := name) (v := v) (t := s.toks + 1) (by rw [hks]; exact hn)
  have UU : ∀ o', Upd dx (dictOf es n) o' (pre ++ (dx, dictOf es n) :: post) (pre ++ (dx, o') :: post) := fun o' => by
    clear N I hx hd hg U
    induction pre with
    | nil => exact .head b
    | cons p r ih => exact .tail (a p (.head _)) (ih fun q hq => a q (.tail _ hq))
  refine set_dict F X₀ N I rfl hs hp ht hh (he.some name) rfl (UU _) (by rw [he'.len, List.length_append, List.length_singleton]; omega) fun h' F' N' => ?_
  exact h h' _ _ F' (by rw [hg]; exact N') he'
theorem get_field {expr : Bool} {Q : Value → Shared → Prop} {attr : Option Value} (F : Fr h₀ L s.heap m) (X₀ : K.In h₀) (N : News h₀ L s.heap news) (hx : (x, (⟨.ref C, some dx, .plain, sl⟩ : Obj)) ∈ news) (hd : (dx, dictOf es n) ∈ news) (he : EntsAre w es kvs) (hf : kvs.find? (·.1 == name) = some (name, v)) (hg : plainGet K C name = true) (hh : hasDictIn K C = true)
    (ha : findIn K (.ref C) name = some attr) (hn : noGet K attr = true) (hv : handedIn v = true) (h : Q v { s with toks := s.toks + 1 }) :
    wpAny (model prog w) A (getAttr (.ref x) name expr) Q E s :=
  get_own F X₀ (InstAt.of_news N hx hd) hg hh ha hn (he.get hf) hv h
end
end Mine
namespace Mine
theorem find_hit {n : Str} {v : Value} {r : List (Str × Value)} : ((n, v) :: r).find? (·.1 == n) = some (n, v) := by simp
theorem find_miss {a n : Str} {u v : Value} {r : List (Str × Value)} (h : a ≠ n) (k : r.find? (·.1 == n) = some (n, v)) : ((a, u) :: r).find? (·.1 == n) = some (n, v) := by
  rw [List.find?_cons]
  have : (a == n) = false := by rw [beq_eq_false_iff_ne]; exact h
  simp only [this]; exact k
end Mine
end
section
namespace Mine
theorem iter_tupiter {prog : Program} {w : World} {A : Around} {E : Value → Shared → Prop} {s : Shared} {it t i : Nat} {Q : Value → Shared → Prop} (hit : s.heap.IsTupleIter it t i) (h : Q (.ref it) s) : wpAny (model prog w) A (pyIter (.ref it)) Q E s := by
  refine wpAny_pyIter_slot hit.typeIs F.slot_tuple_iterator_iter (wpAny_call_entry F.slot_tuple_iterator_iter hit.typeIs F.entry_tuple_iterator_iter ?_ (F.args_tuple_iterator_iter_1 _))
  show wpAny _ _ (ret (.ref it)) _ _ s
  exact wpAny_pure ⟨_, rfl, "tuple_iterator", _, hit.typeIs, F.slot_tuple_iterator_next.lookup, h⟩
theorem walks_tup {prog : Program} {w : World} {A : Around} (hh : A.handled = none) (I ax : Addr) (hne : ax ≠ I) (items : Array Value) :
    Walks prog w A I [I, ax] [I] items.size (fun i v => items[i]? = some v) (fun i h => h.IsTupleIter I ax i ∧ h.IsTuple ax items) where
  sub := fun b hb => by simp at hb; simp [hb]
  frame := fun _ _ _ st hk => ⟨let ⟨o, ho, r⟩ := st.1; ⟨o, hk I (by simp) o ho, r⟩, let ⟨o, ho, r⟩ := st.2; ⟨o, hk ax (by simp) o ho, r⟩⟩
  item := fun i s Q E hi st hQ => by
    refine wpAny_pyNext_tuple_item st.1 st.2 (x := items[i]) (by simp [hi]) fun h' hit' hs' => ?_
    exact hQ _ h' s.toks (by simp [hi]) ⟨hit', st.2.extBut hs'.extBut hne⟩ fun b o hb e => hs'.extBut b o (fun h => hb (by simp [h])) e
  done := fun s Q E st hQ => wpAny_pyNext_tuple_end hh st.1 st.2 (by simp) fun h' he' => hQ h' s.toks fun b o hb e => he' b o (fun h => hb (by simp [h])) e
  self := fun _ _ _ _ st hQ => iter_tupiter st.1 hQ
section
variable {prog : Program} {w : World} {A : Around} {E : Value → Shared → Prop} {s : Shared} {h₀ : Heap} {L c : Addr} {m : Str → Option Value} {news : Led} {vs : List Value} {ns : List Int}
theorem max_tup_N {Q : Value → Shared → Prop} (F : Fr h₀ L s.heap m) (N : News h₀ L s.heap news) (hh : A.handled = none) (hm : (c, ({ cls := .type "tuple", data := .seq vs.toArray } : Obj)) ∈ news) (hi : IntsAre vs ns) (hne : 0 < vs.length)
    (h : ∀ h' M (t : Tok) tk, Fr h₀ L h' m → News h₀ L h' news → M ∈ ns → (∀ a, a ∈ ns → a ≤ M) → Q (.int M t) { s with heap := h', toks := tk }) :
    wpAny (model prog w) A (call (.builtin "max") [.ref c]) Q E s := by
  have ht : s.heap.IsTuple c vs.toArray := ⟨_, (N _ hm).1, rfl, _, rfl⟩
  have hlt : c < s.heap.objs.size := Heap.lt_size (N _ hm).1
  have hln := IntsAre.length hi
  refine call_max_walk (wpAny_pyIter_tuple ht ?_)
  have hcI : c ≠ s.heap.objs.size := Nat.ne_of_lt hlt
  have hval : ∀ (i : Nat) (v : Value), vs.toArray[i]? = some v → ∃ t, v = .int ((fun i => ns.getD i 0) i) t := fun i v hv => IntsAre.int_at hi i v (by simpa using hv)
  refine ⟨_, _, _, _, _, _, _, rfl, walks_tup (A := A.in1) hh s.heap.objs.size c hcI vs.toArray, ⟨⟨_, Heap.get?_push_size _ rfl, rfl, rfl⟩, ht.push _⟩, fun b hb => ?_, by simpa using hne, CmpOf.ints_gt (fun i => ns.getD i 0) hval, fun v h' tk hP hk => ?_⟩
  · show b < (s.heap.push _).objs.size
    rw [Heap.size_push]
    simp only [List.mem_cons, List.not_mem_nil, or_false] at hb
    rcases hb with rfl | rfl
    · exact Nat.lt_succ_self _
    · exact Nat.lt_succ_of_lt hlt
  · obtain ⟨t, rfl⟩ := hval _ _ hP
    obtain ⟨h1, h2⟩ := argBest_gt (fun i => ns.getD i 0) (vs.length - 1)
    have hk' : ∀ b o, s.heap.get? b = some o → h'.get? b = some o := fun b o e => hk b o (fun hb => by rw [List.mem_singleton] at hb; subst hb; exact absurd (Heap.lt_size e) (Nat.lt_irrefl _)) (Heap.get?_push_of_some _ e)
    have hsz : vs.toArray.size - 1 = vs.length - 1 := by simp
    rw [hsz]
    refine h h' _ t tk (F.grownK hk') (N.grown hk') ?_ fun a ha => ?_
    · exact getD_mem (by omega)
    · obtain ⟨j, hj, rfl⟩ := mem_getD ha
      exact h2 j (by omega)
end
end Mine
end
section
namespace Mine
section
open LCg
variable {prog : Program} {w : World} {A : Around} {E : Value → Shared → Prop} {s : Shared} {h₀ : Heap} {L : Addr} {m : Str → Option Value} {env : Env}
def TupAt (c : Addr) (vs : List Value) (news : Led) : Prop := (c, ({ cls := .type "tuple", data := .seq vs.toArray } : Obj)) ∈ news
theorem lc_tup {elt iter : Expr} {x : Str} {px : Pos} {scope : Scope} {cl : List (Str × Addr)} {pos : Pos} {Q : Value → Shared → Prop} {c : Addr} {vs : List Value} {news : Led} (F : Fr h₀ L s.heap m) (N : News h₀ L s.heap news) (hm : TupAt c vs news) (hh : A.handled = none) (hsz : vs.length ≤ 1000)
    (hev : ∀ Q' : Value → Shared → Prop, Q' (.ref c) s → wpAny (model prog w) A (eval iter env) Q' E s)
    (hclos : closureFor scope env = pure cl) (hcell : ∀ y ∈ scope.names, y.2 ≠ .cell) (hkind : scope.kind = .function)
    (hnames : ∀ y ∈ scope.names, y.2 = .local → scope.names.lookup y.1 = some .local) (hx : scope.names.lookup x = some .local)
    (h : ∀ g, CompRest prog w A h₀ L m env elt x scope cl { s with heap := g } (TupAt c vs) (fun i v => vs.toArray[i]? = some v) (FinE h₀ L m { s with heap := g } Q) vs.length 0 [] news)
    (hs : ∀ x, foldedSetIterable iter env x = pure x := by intro _; rfl) :
    wpAny (model prog w) A (eval (.ListComp elt [⟨.Name x px, iter, [], 0⟩] scope pos) env) Q E s := by
  have hl : s.heap.IsTuple c vs.toArray := ⟨_, (N _ hm).1, rfl, _, rfl⟩
  have hlt : c < s.heap.objs.size := Heap.lt_size (N _ hm).1
  have hz : vs.toArray.size = vs.length := List.size_toArray
  rw [eval_ListComp]
  refine wpAny_comprehension_free (use := none) rfl hs hclos hkind hnames (hev _ ?_)
  refine wpAny_pyIter_tuple hl ?_
  have up : ∀ b o, s.heap.get? b = some o → (s.heap.push { cls := .type "tuple_iterator", data := .fields #[.ref c, .int 0 0] }).get? b = some o := fun b o e => Heap.get?_push_of_some _ e
  have W : Walks prog w A s.heap.objs.size [s.heap.objs.size, c] [s.heap.objs.size] vs.length (fun i v => vs.toArray[i]? = some v) (fun i h => h.IsTupleIter s.heap.objs.size c i ∧ h.IsTuple c vs.toArray) := by
    have := walks_tup (prog := prog) (w := w) hh s.heap.objs.size c (Nat.ne_of_lt hlt) vs.toArray
    rw [hz] at this
    simpa using this
  refine block_U (S := TupAt c vs) W (by rw [sizeLine_eq]; omega) (fun i h st => by obtain ⟨o, e, _⟩ := st.1; exact ⟨o, e⟩)
    (fun i h h' o nw st e e' k N' S => ⟨by obtain ⟨o', q, r⟩ := st.1; rw [e] at q; cases q; exact ⟨o, e', r⟩, ⟨_, (N' _ S).1, rfl, _, rfl⟩⟩) hcell hkind hx ⟨⟨_, Heap.get?_push_size _ rfl, rfl, rfl⟩, hl.push _⟩ (fun b hb => ?_)
      (F.keeps up) (N.grown up) (Nat.ne_of_lt F.ns.lt) (next_is_new F) (fun p hp => Nat.ne_of_lt (Heap.lt_size (N p hp).1)) hm (h _) ?_
  · show b < (s.heap.push _).objs.size
    rw [Heap.size_push]
    rcases List.mem_cons.mp hb with rfl | hb
    · exact Nat.lt_succ_self _
    · rw [List.mem_singleton.mp hb]; exact Nat.lt_succ_of_lt hlt
  · intro D C h tk m' ys news' F' N' o1 hn hC₀ hD₀ hCL hDL hCD offC fin
    refine ⟨m', hn, fun h'' hs'' => fin D h'' tk (F'.change hs'' hCL hC₀) (fun p hp => ?_) o1⟩
    refine ⟨hs''.extBut _ _ ?_ (N' p hp).1, (N' p hp).2⟩
    rcases List.mem_cons.mp hp with rfl | hp
    · exact Ne.symm hCD
    · exact offC p hp
end
end Mine
namespace Mine
open LCg
theorem compEnd1 {h₀ : Heap} {L I C D T : Addr} {oT : Obj} {m : Str → Option Value} {s₁ : Shared} {oI oC oD : Obj} {S : Led → Prop} {rest : Value → Led → Prop} {y : Value} {h' : Heap} {tk : Nat} {news : Led}
    (F : Fr h₀ L h' m) (N : News h₀ L h' ((T, oT) :: (I, oI) :: (C, oC) :: (D, oD) :: news)) (off : Off3 I C D news) (hT : (@Ne Nat T I) ∧ (@Ne Nat T C) ∧ (@Ne Nat T D)) (hS : S ((T, oT) :: news)) (r : rest y ((T, oT) :: news)) :
    CompEnd h₀ L m s₁ I oI C oC D oD S rest y { s₁ with heap := h', toks := tk } :=
  ⟨h', tk, (T, oT) :: news, rfl, F, fun p hp => N p (by
    simp only [List.mem_cons] at hp ⊢
    rcases hp with h | h | h | h | h
    · exact .inr (.inl h)
    · exact .inr (.inr (.inl h))
    · exact .inr (.inr (.inr (.inl h)))
    · exact .inl h
    · exact .inr (.inr (.inr (.inr h)))), ⟨hT, off⟩, hS, r⟩
theorem fresh_nil {news : Led} : ∀ p ∈ news, p ∈ news ∨ ∀ r ∈ news, r.1 < p.1 := fun _ h => .inl h
theorem fresh_cons {news nw : Led} {p : Addr × Obj} (h : ∀ r ∈ news, r.1 < p.1) (k : ∀ p ∈ nw, p ∈ news ∨ ∀ r ∈ news, r.1 < p.1) : ∀ q ∈ p :: nw, q ∈ news ∨ ∀ r ∈ news, r.1 < q.1 := fun q hq => by
  rcases List.mem_cons.mp hq with rfl | hq
  · exact .inr h
  · exact k q hq
def FreshAt (L : Nat) (news : Led) (p : Addr × Obj) : Prop := L < p.1 ∨ ∀ r ∈ news, r.1 ≠ p.1
theorem off1_mem {D : Addr} : ∀ {l : Led}, LCg.Off1 D l → ∀ r ∈ l, r.1 ≠ D
  | [], _, _, h => nomatch h
  | _ :: _, x, p, h => by
    rcases List.mem_cons.mp h with rfl | h
    · exact x.1
    · exact off1_mem x.2 p h
theorem fresh_lt {L : Nat} {news : Led} {p : Addr × Obj} (h : L < p.1) : FreshAt L news p := .inl h
theorem fresh_off {L D : Nat} {news : Led} {o : Obj} (h : LCg.Off1 D news) : FreshAt L news (D, o) := .inr (off1_mem h)
theorem off_r {P : Prop} {D : Addr} {l : Led} (h : P ∧ LCg.Off1 D l) : LCg.Off1 D l := h.2
theorem freshL_nil {news : Led} {L : Nat} : ∀ p ∈ news, p ∈ news ∨ FreshAt L news p := fun _ h => .inl h
theorem freshL_cons {news nw : Led} {L : Nat} {p : Addr × Obj} (h : FreshAt L news p) (k : ∀ p ∈ nw, p ∈ news ∨ FreshAt L news p) : ∀ q ∈ p :: nw, q ∈ news ∨ FreshAt L news q := fun q hq => by
  rcases List.mem_cons.mp hq with rfl | hq
  · exact .inr h
  · exact k q hq
theorem news_swap {h₀ h : Heap} {L : Addr} {a b : Addr × Obj} {r : Led} (N : News h₀ L h (a :: b :: r)) : News h₀ L h (b :: a :: r) := fun p hp => N p (by
  simp only [List.mem_cons] at hp ⊢
  rcases hp with h | h | h
  · exact .inr (.inl h)
  · exact .inl h
  · exact .inr (.inr h))
theorem lt_and {news : Led} {a b : Nat} {P : Prop} (h : a < b ∧ P) : P := h.2
end Mine
namespace Mine
theorem front {h₀ h : Heap} {L d : Addr} {o : Obj} {rest nw : Led} (N : News h₀ L h nw) (hne : ∀ p ∈ rest, p.1 ≠ d) (hs : ∀ p ∈ (d, o) :: rest, p ∈ nw) (ho : ∃ es n, o.data = .dict es n) :
    ∃ nw2, News h₀ L h ((d, o) :: nw2) ∧ (∀ p ∈ rest, p ∈ nw2) ∧ (∀ p ∈ nw2, p.1 ≠ d) ∧ ∀ a o', (a, o') ∈ nw → (∃ vs n, o'.data = .seq vs n) → (a, o') ∈ nw2 := by
  refine ⟨nw.filter fun p => p.1 != d, fun p hp => ?_, fun p hp => ?_, fun p hp => ?_, fun a o' ha ⟨vs, n, hsq⟩ => ?_⟩
  · rcases List.mem_cons.mp hp with rfl | hp
    · exact N _ (hs _ (.head _))
    · exact N _ (List.mem_filter.mp hp).1
  · exact List.mem_filter.mpr ⟨hs p (.tail _ hp), by simpa using hne p hp⟩
  · simpa using (List.mem_filter.mp hp).2
  · refine List.mem_filter.mpr ⟨ha, ?_⟩
    simp only [bne_iff_ne, ne_eq]
    rintro rfl
    obtain ⟨es, n', hd⟩ := ho
    have e1 := (N _ ha).1
    have e2 := (N _ (hs _ (.head _))).1
    rw [e1] at e2
    cases e2
    rw [hsq] at hd
    cases hd
end Mine
end
section
namespace Mine
def fnDef (i : Nat) : Stmt := ((PySem.Challenge.pw_ar0036_02.main.body[i]? : Option Stmt)).getD (PySem.Stmt.Pass default)
def fnStmts (i : Nat) : List Stmt := match fnDef i with
  | PySem.Stmt.FunctionDef _ _ b _ _ _ _ _ _ _ => b
  | _ => []
def fnScope (i : Nat) : Scope := match fnDef i with
  | PySem.Stmt.FunctionDef _ _ _ _ _ _ sc _ _ _ => sc
  | _ => default
def fnAt (i k : Nat) : Stmt := ((fnStmts i)[k]?).getD (PySem.Stmt.Pass default)
def bodyOf : Stmt → List Stmt
  | PySem.Stmt.For _ _ b _ _ => b
  | _ => []
def fnLoop (i k j : Nat) : Stmt := ((bodyOf (fnAt i k))[j]?).getD (PySem.Stmt.Pass default)
def fnLoop2 (i k j q : Nat) : Stmt := ((bodyOf (fnLoop i k j))[q]?).getD (PySem.Stmt.Pass default)
end Mine
end
section
namespace Mine
theorem Raise_ownE {prog : Program} {w : World} {A : Around} {E : Value → Shared → Prop} {s : Shared} {h₀ : Heap} {L C : Addr} {m mg : Str → Option Value} {x : String} {np cpos pos : Pos} {bm : List Value} {B newId initId : String} {env : Env} {Q : Flow → Shared → Prop} {e₀ : Expr} {rest : List Expr} (F : Fr h₀ L s.heap m) (O : OwnCls x C bm newId mg h₀) (FB : ExcBaseFacts B newId initId bm) (hh : A.handled = none)
    (hev : ∀ Q' : Value → Shared → Prop, Q' (.ref C) s → wpAny (model prog w) A (eval (.Name x np) env) Q' E s)
    (h : wpAny (model prog w) A (spliced (backTo cpos (starEach (e₀ :: rest) env))) (fun vs s₂ => vs.length ≤ sizeLine ∧ (∀ b o, h₀.get? b = some o → s₂.heap.get? b = some o) ∧
      ∀ h' e, Heap.MadeExcOf s₂.heap h' e (.ref C) vs → E (.ref e) { s₂ with heap := h' }) E s)
    (he : starEach (e₀ :: rest) env = (false, eval e₀ env) :: starEach rest env := by rfl)
    (hplain : (backTo cpos (starEach rest env)).any (·.1) = false := by rfl) :
    wpAny (model prog w) A (exec (.Raise (some (.Call (.Name x np) (e₀ :: rest) [] cpos)) none pos) env) Q E s := by
  obtain ⟨tl, N, nm, q, bs, hdct, sn, sub, ab, col, dd, k0, k1, k2, k3, k5, mN, hC, hN, hni, T⟩ := O.obj
  refine wpAny_Raise_call_subT (C := C) (nm := nm) (q := q) (N := N) (bs := bs) (bm := tl) (hdct := hdct) (sn := sn) (sub := sub) (ab := ab) (col := col) (dd := dd) (k0 := k0) (k1 := k1) (k2 := k2) (k3 := k3) (k5 := k5)
    FB (mN := mN) (T.hasType FB.hasBase) hh (by rw [he]; show (false || (backTo cpos (starEach rest env)).any (·.1)) = false; rw [hplain]; rfl) hni (hev _ ⟨rfl, ?_⟩)
  rw [he] at h ⊢
  exact Calls.evalArgs_plain (wpAny_mono h (fun vs s₂ h₂ => ⟨rfl, h₂.1, h₂.2.1 _ _ hC, hN.keeps h₂.2.1, T.keeps h₂.2.1, h₂.2.2⟩) fun _ _ y => y)
end Mine
namespace Mine
theorem lq0 : ([] : List Value).length = 0 := rfl
theorem lq1 {a : Value} : [a].length = 1 := rfl
theorem lq2 {a b : Value} : [a, b].length = 2 := rfl
theorem lq3 {a b c : Value} : [a, b, c].length = 3 := rfl
theorem lq4 {a b c d : Value} : [a, b, c, d].length = 4 := rfl
theorem lq5 {a b c d e : Value} : [a, b, c, d, e].length = 5 := rfl
theorem len_tupL {prog : Program} {w : World} {A : Around} {E : Value → Shared → Prop} {s : Shared} {h₀ : Heap} {L c : Addr} {news : Led} {vs : List Value} {n : Nat} {Q : Value → Shared → Prop} (N : News h₀ L s.heap news) (hm : (c, ({ cls := .type "tuple", data := .seq vs.toArray } : Obj)) ∈ news) (hn : vs.length = n) (hl : n ≤ 1000)
    (h : Q (.int n (s.toks + 1)) { s with toks := s.toks + 1 + 1 }) : wpAny (model prog w) A (call (.builtin "len") [.ref c]) Q E s := by
  subst hn; exact len_tupN N hm hl h
end Mine
end
section
namespace Mine
theorem ne_succ {l : Led} {L' : Addr} (h : ∀ p ∈ l, p.1 < L') : ∀ p ∈ l, p.1 ≠ L' + 1 := fun p hp => Nat.ne_of_lt (Nat.lt_succ_of_lt (h p hp))
theorem datAll_ints {news : Led} : ∀ {vs : List Value} {ds : List Int}, IntsAre vs ds → DatAll news vs (ds.map Dat.int)
  | _, _, .nil => .nil
  | _, _, .cons n t r => .cons (.int n t) (datAll_ints r)
theorem sub_dec {M : Model} {A : Around} {E : Value → Shared → Prop} {s : Shared} {v sl : Expr} {x : Value} {P : Prop} [Decidable P] {Q : Value → Shared → Prop} (ht : P → wpAny M A (subscriptTail v sl x (.bool true)) Q E s) (hf : ¬ P → wpAny M A (subscriptTail v sl x (.bool false)) Q E s) :
    wpAny M A (subscriptTail v sl x (.bool (decide P))) Q E s := by
  by_cases h : P
  · rw [decide_eq_true h]; exact ht h
  · rw [decide_eq_false h]; exact hf h
section
variable {prog : Program} {w : World} {A : Around} {E : Value → Shared → Prop} {s : Shared} {h₀ : Heap} {L a p q x : Addr} {news : Led} {vs : List Value} {ds : List Int} {k : Nat} {t u : Tok} {Q : Value → Shared → Prop}
open Classical in
theorem in_816 (N : News h₀ L s.heap news) (ma : (a, W.listOf [Value.ref p, Value.ref q].toArray k) ∈ news) (mp : (p, ({ cls := .type "tuple", data := .seq [Value.int 8 t].toArray } : Obj)) ∈ news) (mq : (q, ({ cls := .type "tuple", data := .seq [Value.int 16 u].toArray } : Obj)) ∈ news)
    (mx : (x, ({ cls := .type "tuple", data := .seq vs.toArray } : Obj)) ∈ news) (hi : IntsAre vs ds) (hu : A.units + 64 < cLine) (h : ∀ b : Bool, (b = true ↔ (ds = [8] ∨ ds = [16])) → Q (.bool b) s) : wpAny (model prog w) A (compareOp .In (.ref x) (.ref a)) Q E s := by
  refine kqd_isIn (ds := [Dat.tuple [Dat.int 8], Dat.tuple [Dat.int 16]]) (d := Dat.tuple (ds.map Dat.int)) (n₁ := news) (n₂ := news) N ma rfl rfl (.cons (.tuple mp (.cons (.int 8 t) .nil)) (.cons (.tuple mq (.cons (.int 16 u) .nil)) .nil)) (fun _ h => h) (.tuple mx (datAll_ints hi)) (fun _ h => h) ?_ ?_ hu (h _ ?_)
  · intro d hd
    simp only [List.mem_cons, List.not_mem_nil, or_false] at hd
    rcases hd with rfl | rfl <;> rfl
  · simp [kqdOk]
  · rw [decide_eq_true_iff]
    have hinj : ∀ z : Int, ds.map Dat.int = [Dat.int z] ↔ ds = [z] := fun z => by
      match ds with
      | [] => simp
      | [y] => simp
      | _ :: _ :: _ => simp
    simp only [List.mem_cons, List.not_mem_nil, or_false, Dat.tuple.injEq, hinj]
theorem in_816_no (N : News h₀ L s.heap news) (ma : (a, W.listOf [Value.ref p, Value.ref q].toArray k) ∈ news) (mp : (p, ({ cls := .type "tuple", data := .seq [Value.int 8 t].toArray } : Obj)) ∈ news) (mq : (q, ({ cls := .type "tuple", data := .seq [Value.int 16 u].toArray } : Obj)) ∈ news)
    (mx : (x, ({ cls := .type "tuple", data := .seq vs.toArray } : Obj)) ∈ news) (hi : IntsAre vs ds) (hu : A.units + 64 < cLine) (h2 : 2 ≤ ds.length) (h : Q (.bool false) s) : wpAny (model prog w) A (compareOp .In (.ref x) (.ref a)) Q E s :=
  in_816 N ma mp mq mx hi hu fun b hb => by
    cases b with
    | false => exact h
    | true => rcases hb.mp rfl with e | e <;> (rw [e] at h2; simp at h2)
end
end Mine
end
section
namespace Mine
theorem shown_int_len {x : Int} (h0 : -10000000000 < x) (h1 : x < 10000000000) : (PyData.int x).shown.length ≤ 12 := by
  have : (Str.ofString (toString x)).length ≤ 12 := by
    rw [PySem.ofString_length]
    have : (toString x).length ≤ 10 + 1 := int_text_length_le10 (by decide) (by
      have : (10 : Nat) ^ 10 = 10000000000 := by decide
      rw [this]; omega)
    omega
  exact this
theorem ints_show : ∀ (ns : List Int), (∀ n ∈ ns, -10000000000 < n ∧ n < 10000000000) → PyData.showableAll (ns.map PyData.int) = true
  | [], _ => rfl
  | n :: r, h => by
    have h1 := ints_show r fun x hx => h x (.tail _ hx)
    have h2 := h n (.head _)
    show (PyData.showable (.int n) && PyData.showableAll (r.map PyData.int)) = true
    rw [h1, Bool.and_true]
    show decide (n.natAbs.log2 < 1920) = true
    refine decide_eq_true ?_
    by_cases hz : n.natAbs = 0
    · rw [hz]; decide
    · refine (Nat.log2_lt hz).mpr (Nat.lt_of_lt_of_le (m := 2 ^ 34) ?_ (Nat.pow_le_pow_right (by decide) (by decide)))
      have : (2 : Nat) ^ 34 = 17179869184 := by decide
      rw [this]; omega
theorem ints_nodict : ∀ (ns : List Int), PyData.hasDictAll (ns.map PyData.int) = false
  | [] => rfl
  | n :: r => by show (false || PyData.hasDictAll (r.map PyData.int)) = false; rw [ints_nodict r]; rfl
theorem ints_depth : ∀ (ns : List Int), PyData.depthAll (ns.map PyData.int) = 0
  | [] => rfl
  | n :: r => by show max 0 (PyData.depthAll (r.map PyData.int)) = 0; rw [ints_depth r]; rfl
theorem ints_piled : ∀ (ns : List Int), (∀ n ∈ ns, -10000000000 < n ∧ n < 10000000000) → piled (PyData.shownAll (ns.map PyData.int)) ≤ 14 * ns.length
  | [], _ => Nat.le_refl _
  | n :: r, h => by
    have h1 := ints_piled r fun x hx => h x (.tail _ hx)
    have h2 := shown_int_len (h n (.head _)).1 (h n (.head _)).2
    show piled ((PyData.int n).shown :: PyData.shownAll (r.map PyData.int)) ≤ _
    rw [piled_cons, List.length_cons]
    omega
theorem ints_via {h₀ : Heap} {news : Led} : ∀ {vs : List Value} {ns : List Int}, IntsAre vs ns → ReadsViaAll h₀ news vs (ns.map PyData.int)
  | _, _, .nil => .nil
  | _, _, .cons n t r => .cons (.int n t) (ints_via r)
theorem repr_tup {prog : Program} {w : World} {A : Around} {E : Value → Shared → Prop} {s : Shared} {h₀ : Heap} {L a : Addr} {m : Str → Option Value} {news : Led} {vs : List Value} {ns : List Int} {Q : Value → Shared → Prop}
    (F : Fr h₀ L s.heap m) (N : News h₀ L s.heap news) (hm : (a, ({ cls := .type "tuple", data := .seq vs.toArray } : Obj)) ∈ news) (hi : IntsAre vs ns) (hne : ns ≠ []) (hl : ns.length ≤ 6) (hb : ∀ n ∈ ns, -10000000000 < n ∧ n < 10000000000)
    (hg : A.guards = some []) (hu : A.units + 8 < cLine) (hQ : ∀ X u h' tk, X.length ≤ 200 → Fr h₀ L h' m → News h₀ L h' news → Q (.str X u) { s with heap := h', toks := tk }) : wpAny (model prog w) A (pyReprObj (.ref a)) Q E s := by
  have hlen : (PyData.tuple (ns.map PyData.int)).shown.length ≤ 200 := by
    show (tupleText (PyData.shownAll (ns.map PyData.int))).length ≤ 200
    unfold tupleText
    rw [PySem.Str.length_append, PySem.Str.length_append]
    have hne' : PyData.shownAll (ns.map PyData.int) ≠ [] := by cases ns with
      | nil => exact absurd rfl hne
      | cons _ _ => intro h; cases h
    have h1 := join_length_add _ hne'
    have h2 := ints_piled ns hb
    have h3 : (Str.ofString "(").length = 1 := by decide +kernel
    have h4 : ((if (PyData.shownAll (ns.map PyData.int)).length == 1 then ",)" else ")" : String) : Str).length ≤ 2 := by split <;> decide +kernel
    have h3' : (("(" : Str)).length = 1 := h3
    omega
  exact pyReprObj_via (ReadsVia.tuple hm (ints_via hi)) F N (ints_show ns hb) (ints_nodict ns) rfl hg (by
    show A.units + (PyData.depthAll (ns.map PyData.int) + 1) < cLine
    rw [ints_depth]; omega) (fun h' u tk f n => hQ _ u h' tk hlen f n) (Nat.le_trans hlen (by decide +kernel))
end Mine
end
section
namespace Mine
def Turned (h₀ : Heap) (L : Addr) (news : Led) (J : (Str → Option Value) → Prop) (s : Shared) (f : Flow) (s' : Shared) : Prop :=
  f = .next ∧ ∃ h' tk' m', s' = { s with heap := h', toks := tk' } ∧ Fr h₀ L h' m' ∧ News h₀ L h' news ∧ J m'
theorem sameNews {h₀ h h' : Heap} {L I : Addr} {m : Str → Option Value} {news : Led} (F : Fr h₀ L h m) (N : News h₀ L h news) (hI : h₀.get? I = none) (hIL : I ≠ L) (hn : ∀ p ∈ news, p.1 ≠ I) (hs : ∀ b o, b ≠ I → h.get? b = some o → h'.get? b = some o) : Fr h₀ L h' m ∧ News h₀ L h' news := by
  obtain ⟨oL, a1, a2, hL, a3⟩ := F.ns
  refine ⟨⟨⟨oL, a1, a2, hs _ _ (Ne.symm hIL) hL, a3⟩, fun b o e => hs b o (fun q => by rw [q, hI] at e; cases e) (F.keep b o e), F.above⟩, fun p hp => ⟨hs _ _ (hn p hp) (N p hp).1, (N p hp).2⟩⟩
inductive TupInv (s : Shared) (L : Addr) (h₀ : Heap) (c : Addr) (vs : List Value) (news : Led) (J : Nat → (Str → Option Value) → Prop) : Nat → Shared → Prop
  | mk (i : Nat) (m₁ : Str → Option Value) (h : Heap) (tk : Nat) : i ≤ vs.length → J i m₁ → Fr h₀ L h m₁ → News h₀ L h news → h.IsTupleIter s.heap.objs.size c i → TupInv s L h₀ c vs news J (vs.length + 1 - i) { s with heap := h, toks := tk }
theorem for_tup {prog : Program} {w : World} {A : Around} {E : Value → Shared → Prop} {s : Shared} {env : Env} {h₀ : Heap} {c : Addr} {vs : List Value} {m : Str → Option Value} {news : Led} {x : Str} {px pos : Pos} {iter : Expr} {body : List Stmt} {Q : Flow → Shared → Prop} (J : Nat → (Str → Option Value) → Prop)
    (F : Fr h₀ env.locals s.heap m) (N : News h₀ env.locals s.heap news) (hm : (c, ({ cls := .type "tuple", data := .seq vs.toArray } : Obj)) ∈ news) (hh : A.handled = none)
    (hx : env.kindOf x = some .local) (hp : (env.scope.kind == .class || (env.scope.kind == .module && env.locals != env.globals)) = false)
    (hev : ∀ Q' : Value → Shared → Prop, Q' (.ref c) s → wpAny (model prog w) A (eval iter env) Q' E s)
    (h0 : J 0 m)
    (turn : ∀ i v m₁ h tk I o, vs[i]? = some v → J i m₁ → (∀ p ∈ news, p.1 < I) → Fr h₀ env.locals h (fun y => if y = x then some v else m₁ y) → News h₀ env.locals h ((I, o) :: news) →
      wpAny (model prog w) A (execs body env) (Turned h₀ env.locals ((I, o) :: news) (J (i + 1)) { s with heap := h, toks := tk }) E { s with heap := h, toks := tk })
    (done : ∀ h' tk' m', J vs.length m' → Fr h₀ env.locals h' m' → News h₀ env.locals h' news → Q .next { s with heap := h', toks := tk' })
    (hs : ∀ x, foldedSetIterable iter env x = pure x := by intro _; rfl)
    (hE : PassesOwn (model prog w) A env E := by passes_own) :
    wpAny (model prog w) A (exec (.For (.Name x px) iter body [] pos) env) Q E s := by
  refine wpAny_For (hev _ ?_) hs
  have hT : s.heap.IsTuple c vs.toArray := ⟨_, (N _ hm).1, rfl, _, rfl⟩
  refine wpAny_pyIter_tuple hT ?_
  have hI0 : h₀.get? s.heap.objs.size = none := next_is_new F
  have hIL : s.heap.objs.size ≠ env.locals := fun e => absurd F.ns.lt (e ▸ Nat.lt_irrefl _)
  have hnI : ∀ p ∈ news, p.1 < s.heap.objs.size := fun p hp => Heap.lt_size (N p hp).1
  refine codeAny_forLoop_any (R := fun r s' => match r with | .ok f => Q f s' | .error e => cameBackBy (model prog w) A env E e s')
    (TupInv s env.locals h₀ c vs news J) ?_ (vs.length + 1)
    ⟨0, m, _, s.toks, Nat.zero_le _, h0, F.push _, fun p hp => ⟨Heap.get?_push_of_some _ (N p hp).1, (N p hp).2⟩, ⟨_, Heap.get?_push_size _ rfl, rfl, rfl⟩⟩
  rintro k s' ⟨i, m₁, h, tk, hi, hJ, F₁, N₁, hit⟩
  have hT₁ : h.IsTuple c vs.toArray := ⟨_, (N₁ _ hm).1, rfl, _, rfl⟩
  cases hv : vs[i]? with
  | none =>
    have hsz : i = vs.length := Nat.le_antisymm hi (by simpa using hv)
    refine wpAny_pyNext_tuple_end (s := { s with heap := h, toks := tk }) hh hit hT₁ (by simpa using hv) fun h' he' => wpAny_execs_nil ?_
    obtain ⟨F₂, N₂⟩ := sameNews F₁ N₁ hI0 hIL (fun p hp => Nat.ne_of_lt (hnI p hp)) fun b o q e => he' b o q e
    exact done h' tk m₁ (hsz ▸ hJ) F₂ N₂
  | some v =>
    have hlt : i < vs.length := (List.getElem?_eq_some_iff.mp hv).1
    refine wpAny_pyNext_tuple_item (s := { s with heap := h, toks := tk }) hit hT₁ (x := v) (by simpa using hv) fun h' hit' hs' => ?_
    obtain ⟨F₂, N₂⟩ := sameNews F₁ N₁ hI0 hIL (fun p hp => Nat.ne_of_lt (hnI p hp)) fun b o q e => hs'.extBut b o q e
    show wpAny (model prog w) A (letOwnedTupleGo (.Name x px) (.ref s.heap.objs.size) v) _ _ _
    refine (show wpAny (model prog w) A (pure ()) _ _ _ from wpAny_pure ?_)
    refine wpAny_assign_Name (wpAny_storeName_local hx F₂.ns (fun h'' hn'' hs'' => ?_) hp)
    have F₃ := F₂.set hn'' hs''
    have N₃ := N₂.set hs''
    obtain ⟨oI, hoI, hcI, hdI⟩ := hit'
    have hIo : h''.get? s.heap.objs.size = some oI := (hs''.2 _ hIL).trans hoI
    have N₄ : News h₀ env.locals h'' ((s.heap.objs.size, oI) :: news) := fun p hp => by
      rcases List.mem_cons.mp hp with rfl | hp
      · exact ⟨hIo, hIL, hI0⟩
      · exact N₃ p hp
    refine wpAny_passesOwn hE (wpAny_mono (turn i v m₁ h'' _ s.heap.objs.size oI hv hJ hnI F₃ N₄) (fun f s₃ p => ?_) fun _ _ e => e)
    obtain ⟨rfl, h₃, tk₃, m₃, rfl, F₅, N₅, hJ'⟩ := p
    exact ⟨_, (by omega : vs.length + 1 - (i + 1) < vs.length + 1 - i), .mk (i + 1) m₃ h₃ tk₃ hlt hJ' F₅ (fun p hp => N₅ p (.tail _ hp)) ⟨oI, (N₅ _ (.head _)).1, hcI, hdI⟩⟩
end Mine
end
section
namespace Mine
theorem meets_bool_any (x : Value) : Meets (Builtin.«bool.__new__» ⟨[.type "bool", x], []⟩) (fun _ R s => ∃ b tk, (∀ (prog : Program) (w : World) (A : Around) (E : Value → Shared → Prop) (Q : Bool → Shared → Prop), Q b { s with toks := tk } → wpAny (model prog w) A (truthy x) Q E s) ∧ R (.ok (.ret (.bool b))) { s with toks := tk }) :=
  Meets.of_wp fun prog w A R s hs => by
    obtain ⟨b, tk, hT, hr⟩ := hs
    obtain ⟨hp, g, d, tk0, os⟩ := s
    have f1 := F.conv_sub_bool
    repeat (any_goals (first | assumption | (with_reducible refine hT prog w _ _ _ ?_) | wp_step))
    all_goals first | exact ⟨_, rfl, hr⟩ | exact hr | skip
theorem call_bool_any {prog : Program} {w : World} {A : Around} {E : Value → Shared → Prop} {s : Shared} {x : Value} {b : Bool} {tk : Nat} {Q : Value → Shared → Prop}
    (hT : ∀ (prog : Program) (w : World) (A : Around) (E : Value → Shared → Prop) (Q : Bool → Shared → Prop), Q b { s with toks := tk } → wpAny (model prog w) A (truthy x) Q E s) (h : Q (.bool b) { s with toks := tk }) : wpAny (model prog w) A (call (.type "bool") [x]) Q E s :=
  call_bool_1 (meets_bool_any x) ⟨b, tk, hT, (show wants (fun obj s₁ => s₁.TypeIs obj "bool" ∧ Q obj s₁) E _ _ from ⟨rfl, h⟩)⟩
theorem truthy_cls {M : Model} {A : Around} {E : Value → Shared → Prop} {s : Shared} {K : Frag} {C : Addr} {Q : Bool → Shared → Prop} (X : K.In s.heap) (hs : specialIn K (.ref C) "__bool__" = some none) (hl : specialIn K (.ref C) "__len__" = some none)
    (h : Q true s) : wpAny M A (truthy (.ref C)) Q E s := by
  unfold truthy
  refine wpAny_bind (m := callSpecial? (.ref C) (Str.ofString "__bool__")) (wpAny_bind ((looks_specialIn X hs).here (wpAny_pure ?_)))
  refine wpAny_bind (m := specialOf (.ref C) (Str.ofString "__len__")) ((looks_specialIn X hl).here ?_)
  exact wpAny_pure h
theorem bool_cls {prog : Program} {w : World} {A : Around} {E : Value → Shared → Prop} {s : Shared} {K : Frag} {C : Addr} {Q : Value → Shared → Prop} (X : K.In s.heap) (hs : specialIn K (.ref C) "__bool__" = some none) (hl : specialIn K (.ref C) "__len__" = some none)
    (h : Q (.bool true) s) : wpAny (model prog w) A (call (.type "bool") [.ref C]) Q E s :=
  call_bool_any (tk := s.toks) (fun _ _ _ _ _ hq => truthy_cls X hs hl hq) h
theorem truthy_lst {prog : Program} {w : World} {A : Around} {E : Value → Shared → Prop} {s : Shared} {h₀ : Heap} {L l : Addr} {news : Led} {vs : List Value} {n : Nat} {Q : Bool → Shared → Prop} (N : News h₀ L s.heap news) (hm : (l, listOf vs.toArray n) ∈ news) (hl : vs.length ≤ 1000)
    (h : Q (!vs.isEmpty) { s with toks := s.toks + 1 + 1 }) : wpAny (model prog w) A (truthy (.ref l)) Q E s :=
  wpAny_truthy_list (items := vs.toArray) ⟨_, (N _ hm).1, rfl, n, rfl⟩ (by rw [List.size_toArray]; omega) (by rw [List.isEmpty_toArray]; exact h)
theorem bool_lst {prog : Program} {w : World} {A : Around} {E : Value → Shared → Prop} {s : Shared} {h₀ : Heap} {L l : Addr} {news : Led} {vs : List Value} {n : Nat} {Q : Value → Shared → Prop} (N : News h₀ L s.heap news) (hm : (l, listOf vs.toArray n) ∈ news) (hl : vs.length ≤ 1000)
    (h : Q (.bool (!vs.isEmpty)) { s with toks := s.toks + 1 + 1 }) : wpAny (model prog w) A (call (.type "bool") [.ref l]) Q E s :=
  call_bool_any (tk := s.toks + 1 + 1) (fun _ _ _ _ _ hq => truthy_lst N hm hl hq) h
end Mine
end
section
namespace Mine
variable {prog : Program} {w : World} {A : Around} {E : Value → Shared → Prop} {s : Shared}
theorem getItem_tuple_bool {t : Addr} {items : Array Value} {b : Bool} {j : Nat} {x : Value} {Q : Value → Shared → Prop} (ht : IsTup s.heap t items)
    (hj : seqIndex? (if b then 1 else 0) items.size = some j) (hx : items[j]? = some x) (h : Q x s) : wpAny (model prog w) A (getItem (.ref t) (.bool b)) Q E s := by
  unfold getItem
  try with_reducible refine wpAny_holding ?_
  first | refine wpAny_bind (wpAny_pure ?_) | skip
  refine wpAny_bind (wpAny_sequenceKey ht.typeIs (by decide) ?_)
  refine wpAny_bind (wpAny_callSpecial?_slot (name := Str.ofString "__getitem__") ht.typeIs slot_tuple_getitem
    (wpAny_call_entry slot_tuple_getitem ht.typeIs entry_tuple_getitem ?_ (args_tuple_getitem _ _)))
  show wpAny _ _ (Builtin.Tuple.tupleItemsOf (.ref t) >>= _) _ _ s
  refine wpAny_bind (tupleItemsOf_ ht ?_)
  refine wpAny_bind (wpAny_typeOf (T := "bool") rfl ?_)
  rw [if_neg (by decide)]
  refine wpAny_bind (wpAny_specialOf (T := "bool") rfl (by with_unfolding_all rfl : typeLookup (.type "bool") "__index__" = pure (some (.builtin "int.__index__"))) ?_)
  rw [if_neg (by simp)]
  refine wpAny_bind (wpAny_of_eq (a := if b then 1 else 0) (by cases b <;> rfl) ?_)
  rw [if_neg (by cases b <;> decide)]
  simp only [hj, Option.bind_some, hx]
  exact wpAny_pure ⟨_, rfl, wpAny_pure h⟩
theorem item_tuple_bool {value slice : Expr} {t : Addr} {l : List Value} {b : Bool} {j : Nat} {x : Value} {Q : Value → Shared → Prop} (ht : IsTup s.heap t l.toArray)
    (hj : seqIndex? (if b then 1 else 0) l.length = some j) (hx : l[j]? = some x) (h : Q x s)
    (hs : subscripted slice false (.ref t) (.bool b) = operate [.ref t, .bool b] (getItem (.ref t) (.bool b)) := by with_unfolding_all rfl) (hg : ∀ r, letTemporaryGo value (.ref t) r = pure () := by intro _; with_unfolding_all rfl) :
    wpAny (model prog w) A (subscriptTail value slice (.ref t) (.bool b)) Q E s :=
  subscriptTail_builtin ht.typeIs slot_tuple_getitem.lookup (getItem_tuple_bool ht (by simpa using hj) (by simpa using hx) h) hs hg
end Mine
end
section
namespace Mine
theorem noFill_tuple_mul : fillsNumberSlot (.type "tuple") "mul" = pure false :=
  PySem.fillsNumberSlot_seq (id := "tuple.__mul__") (r := some (.builtin "tuple.__rmul__")) F.slot_tuple_mul.lookup (by decide +kernel) F.slot_tuple_rmul.lookup (by decide +kernel)
theorem repeat_tuple : seqRepeat? (.type "tuple") = pure (some (.builtin "tuple.__mul__")) := by
  unfold seqRepeat?
  rw [PySem.seqSlot_of (T := "tuple") (name := "__mul__") (id := "tuple.__mul__") F.slot_tuple_mul.lookup (by decide +kernel), PySem.seqSlot_of (T := "tuple") (name := "__rmul__") (id := "tuple.__rmul__") F.slot_tuple_rmul.lookup (by decide +kernel)]
  rfl
theorem no_imul_tuple : typeLookup (.type "tuple") "__imul__" = pure none := by rw [typeLookup_type, builtinLookup_eq_fast]; kernel_rfl
theorem noFillI_tuple_mul : fillsInplaceSlot (.type "tuple") "mul" false = pure false := by
  unfold fillsInplaceSlot
  show (do let fi ← typeLookup (.type "tuple") "__imul__"; return fi.isSome && !isSeqSlot fi) = _
  rw [no_imul_tuple]; rfl
variable {M : Model} {A : Around} {E : Value → Shared → Prop} {s : Shared}
theorem imul_tuple_road {a n : Value} {Q : Value → Shared → Prop} (ha : s.TypeIs a "tuple") (hn : ∀ s' : Shared, s'.TypeIs n "int")
    (hc : wpAny M A (call (.builtin "int.__rmul__") [n, a]) (fun v s' => v = .notImplemented ∧ s'.TypeIs a "tuple" ∧ wpAny M A (call (.builtin "tuple.__mul__") [a, n]) Q E s') E s) : wpAny M A (inplaceOp .Mult a n) Q E s := by
  unfold inplaceOp
  refine wpAny_holding ?_
  refine wpAny_bind (wpAny_typeOf ha ?_)
  refine wpAny_bind (wpAny_of_eq noFillI_tuple_mul ?_)
  refine wpAny_bind (wpAny_binaryOp1_right_declines (nm := "mul") (by decide) ha (hn s) noFill_tuple_mul F.fills_int_mul F.slot_int_rmul (wpAny_mono hc (fun v s' h' => ⟨h'.1, ?_⟩) fun _ _ e => e))
  refine wpAny_bind (wpAny_of_eq (a := none) (by unfold seqSlot?; rw [show dunderI (Operator.Mult.info.2) = "__imul__" from rfl, no_imul_tuple]; rfl) ?_)
  refine wpAny_bind (wpAny_of_eq repeat_tuple ?_)
  unfold sequenceRepeat
  refine wpAny_bind (wpAny_specialOf (hn s') F.slot_int_index.lookup ?_)
  exact wpAny_bind (wpAny_rule h'.2.2)
theorem rmul_tuple (x : Int) (u : Tok) (t : Addr) (items : Array Value) : Meets (Builtin.«int.__rmul__» ⟨[.int x u, .ref t], []⟩) (fun _ R s => IsTup s.heap t items ∧ R (.ok (.ret .notImplemented)) s) :=
  Meets.of_wp fun prog w A R s hs => by
    obtain ⟨⟨⟨cls, dd, data, sl⟩, ho, hcl, n, hd⟩, hr⟩ := hs
    simp only at hcl hd
    subst hcl hd
    obtain ⟨hp, g, d, tk, os⟩ := s
    wp_walk
    exact ⟨_, rfl, hr⟩
theorem mul_tuple1 (x : Int) (u : Tok) (t : Addr) (v : Value) : Meets (Builtin.«tuple.__mul__» ⟨[.ref t, .int x u], []⟩) (fun _ R s => IsTup s.heap t #[v] ∧ 1 ≤ x ∧ x ≤ 4 ∧ (x = 1 → R (.ok (.ret (.ref t))) s) ∧ (x ≠ 1 → R (.ok (.ret (.ref s.heap.objs.size))) { s with heap := s.heap.push { cls := .type "tuple", data := .seq (List.replicate x.toNat v).toArray } })) :=
  Meets.of_wp fun prog w A R s hs => by
    obtain ⟨hT, h1, h4, hr, hr'⟩ := hs
    show wpAny _ _ (do
      let n ← asIndex (.int x u)
      _) _ _ _
    refine wpAny_bind (wpAny_of_eq (a := x) rfl ?_)
    rw [if_neg (by simp only [Bool.or_eq_true, decide_eq_true_eq]; omega)]
    refine wpAny_bind (tupleItemsOf_ hT ?_)
    by_cases h : x = 1
    · subst h
      refine wpAny_bind (m := Builtin.Tuple.tupleIsExact (.ref t)) ?_
      unfold Builtin.Tuple.tupleIsExact
      refine wpAny_bind (wpAny_typeOf hT.typeIs ?_)
      exact wpAny_pure (wpAny_bind (wpAny_rule (wpAny_pure ⟨_, rfl, hr rfl⟩)))
    · have hr2 := hr' h
      obtain ⟨hp, g, d, tk, os⟩ := s
      obtain rfl | rfl | rfl : x = 2 ∨ x = 3 ∨ x = 4 := by omega
      all_goals
        repeat (rw [if_neg (by decide)])
        unfold Builtin.Tuple.tupleExact
        wp_walk
        try exact ⟨_, rfl, hr2⟩
theorem imul_tup1 {prog : Program} {w : World} {A : Around} {E : Value → Shared → Prop} {s : Shared} {h₀ : Heap} {L c : Addr} {m : Str → Option Value} {news : Led} {v : Value} {x : Int} {u : Tok} {Q : Value → Shared → Prop} (F9 : Fr h₀ L s.heap m) (N : News h₀ L s.heap news)
    (hm : (c, ({ cls := .type "tuple", data := .seq [v].toArray } : Obj)) ∈ news) (h1 : 1 ≤ x) (h4 : x ≤ 4)
    (h : ∀ c' h' news', Fr h₀ L h' m → News h₀ L h' news' → (c', ({ cls := .type "tuple", data := .seq (List.replicate x.toNat v).toArray } : Obj)) ∈ news' → (∀ p ∈ news, p ∈ news') → Q (.ref c') { s with heap := h' }) :
    wpAny (model prog w) A (inplaceOp .Mult (.ref c) (.int x u)) Q E s := by
  have ht : IsTup s.heap c #[v] := N.isTup hm
  refine imul_tuple_road ht.typeIs (fun s' => typeIs_int s' x u) (call_meets F.slot_int_rmul (typeIs_int s x u) F.entry_int_rmul (F.args_int_rmul_2 _ _) (rmul_tuple x u c #[v])
    ⟨ht, rfl, ht.typeIs, call_meets F.slot_tuple_mul ht.typeIs F.entry_tuple_mul (F.args_tuple_mul_2 _ _) (mul_tuple1 x u c v) ⟨ht, h1, h4, fun e => ?_, fun _ => ?_⟩⟩)
  · subst e
    exact h c s.heap news F9 N hm fun _ h9 => h9
  · exact h _ _ _ (F9.push _) (News.push F9 N _) (.head _) fun _ h9 => .tail _ h9
end Mine
end
section
namespace Mine
theorem sameNews2 {h₀ h h' : Heap} {L I I2 : Addr} {m : Str → Option Value} {news : Led} (F : Fr h₀ L h m) (N : News h₀ L h news) (hI : h₀.get? I = none) (hI2 : h₀.get? I2 = none) (hIL : I ≠ L) (hIL2 : I2 ≠ L) (hn : ∀ p ∈ news, p.1 ≠ I) (hn2 : ∀ p ∈ news, p.1 ≠ I2) (hs : ∀ b o, b ≠ I → b ≠ I2 → h.get? b = some o → h'.get? b = some o) : Fr h₀ L h' m ∧ News h₀ L h' news := by
  obtain ⟨oL, a1, a2, hL, a3⟩ := F.ns
  refine ⟨⟨⟨oL, a1, a2, hs _ _ (Ne.symm hIL) (Ne.symm hIL2) hL, a3⟩, fun b o e => hs b o (fun q => by rw [q, hI] at e; cases e) (fun q => by rw [q, hI2] at e; cases e) (F.keep b o e), F.above⟩, fun p hp => ⟨hs _ _ (hn p hp) (hn2 p hp) (N p hp).1, (N p hp).2⟩⟩
inductive EnumInv (s : Shared) (L : Addr) (h₀ : Heap) (l : Addr) (vs : List Value) (news : Led) (J : Nat → (Str → Option Value) → Prop) : Nat → Shared → Prop
  | mk (i : Nat) (m₁ : Str → Option Value) (h : Heap) (tk : Nat) (old : Value) : i ≤ vs.length → J i m₁ → Fr h₀ L h m₁ → News h₀ L h news → IsEnum h (s.heap.objs.size + 1) s.heap.objs.size ((i : Nat) : Int) old → h.IsListIter s.heap.objs.size l i → EnumInv s L h₀ l vs news J (vs.length + 1 - i) { s with heap := h, toks := tk }
theorem for_enum {prog : Program} {w : World} {A : Around} {E : Value → Shared → Prop} {s : Shared} {env : Env} {h₀ : Heap} {l : Addr} {vs : List Value} {n : Nat} {m : Str → Option Value} {news : Led} {xi xv : Str} {pi pv pt pos : Pos} {x1} {iter : Expr} {body : List Stmt} {Q : Flow → Shared → Prop} (J : Nat → (Str → Option Value) → Prop)
    (F : Fr h₀ env.locals s.heap m) (N : News h₀ env.locals s.heap news) (hm : (l, ({ cls := .type "list", data := .seq vs.toArray n } : Obj)) ∈ news) (hh : A.handled = none)
    (hxi : env.kindOf xi = some .local) (hxv : env.kindOf xv = some .local) (hp : (env.scope.kind == .class || (env.scope.kind == .module && env.locals != env.globals)) = false)
    (hev : ∀ Q' : Value → Shared → Prop, (∀ s' : Shared, s'.heap = s.heap → s'.gens = s.gens → s'.drawn = s.drawn → s'.os = s.os → wpAny (model prog w) A (call (.type "enumerate") [.ref l]) Q' E s') → wpAny (model prog w) A (eval iter env) Q' E s)
    (h0 : J 0 m)
    (turn : ∀ i v u m₁ h tk e it oe oi, vs[i]? = some v → J i m₁ → (∀ p ∈ news, p.1 < e) → (∀ p ∈ news, p.1 < it) → Fr h₀ env.locals h (fun y => if y = xv then some v else if y = xi then some (.int i u) else m₁ y) → News h₀ env.locals h ((e, oe) :: (it, oi) :: news) →
      wpAny (model prog w) A (execs body env) (Turned h₀ env.locals ((e, oe) :: (it, oi) :: news) (J (i + 1)) { s with heap := h, toks := tk }) E { s with heap := h, toks := tk })
    (done : ∀ h' tk' m', J vs.length m' → Fr h₀ env.locals h' m' → News h₀ env.locals h' news → Q .next { s with heap := h', toks := tk' })
    (hs : ∀ x, foldedSetIterable iter env x = pure x := by intro _; rfl)
    (hE : PassesOwn (model prog w) A env E := by passes_own) :
    wpAny (model prog w) A (exec (.For (.Tuple [.Name xi pi, .Name xv pv] x1 pt) iter body [] pos) env) Q E s := by
  refine wpAny_For (hev _ ?_) hs
  intro s' eh eg ed eo
  obtain ⟨h', g', d', tk', os'⟩ := s'
  dsimp only at eh eg ed eo
  subst eh eg ed eo
  have hol : s.heap.get? l = some { cls := .type "list", data := .seq vs.toArray n } := (N _ hm).1
  refine call_enumerate_1 (s := ⟨s.heap, s.gens, s.drawn, tk', s.os⟩) hol fun H he hit hz hk => ?_
  dsimp only at he hit hz hk
  have hlt : l < s.heap.objs.size := Heap.lt_size hol
  have hLt : env.locals < s.heap.objs.size := F.ns.lt
  have hnI : ∀ p ∈ news, p.1 < s.heap.objs.size := fun p hp => Heap.lt_size (N p hp).1
  have hit0 : h₀.get? s.heap.objs.size = none := next_is_new F
  have he0 : h₀.get? (s.heap.objs.size + 1) = none := by
    cases q : h₀.get? (s.heap.objs.size + 1) with
    | none => rfl
    | some o => exact absurd (Heap.lt_size (F.keep _ _ q)) (Nat.not_lt.mpr (Nat.le_succ _))
  have F₀ : Fr h₀ env.locals H m := F.keeps hk
  have N₀ : News h₀ env.locals H news := N.grown hk
  refine wpAny_pyIter_enum (s := ⟨H, s.gens, s.drawn, tk', s.os⟩) he ?_
  refine codeAny_forLoop_any (R := fun r s' => match r with | .ok f => Q f s' | .error e => cameBackBy (model prog w) A env E e s')
    (EnumInv s env.locals h₀ l vs news J) ?_ (vs.length + 1)
    ⟨0, m, H, tk', .none, Nat.zero_le _, h0, F₀, N₀, he, hit⟩
  rintro k s' ⟨i, m₁, h, tk, old, hi, hJ, F₁, N₁, he₁, hit₁⟩
  have hl₁ : h.IsList l vs.toArray := ⟨_, (N₁ _ hm).1, rfl, _, rfl⟩
  have hei : s.heap.objs.size + 1 ≠ s.heap.objs.size := by omega
  have hle : l ≠ s.heap.objs.size + 1 := Nat.ne_of_lt (Nat.lt_succ_of_lt hlt)
  have hli : l ≠ s.heap.objs.size := Nat.ne_of_lt hlt
  cases hv : vs[i]? with
  | none =>
    have hsz : i = vs.length := Nat.le_antisymm hi (by simpa using hv)
    refine wpAny_pyNext_enum_end (s := { s with heap := h, toks := tk }) hh he₁ hit₁ hl₁ (by simpa using hv) fun h₂ hx₂ => wpAny_execs_nil ?_
    obtain ⟨F₂, N₂⟩ := sameNews F₁ N₁ hit0 (Nat.ne_of_gt hLt) (fun p hp => Nat.ne_of_lt (hnI p hp)) fun b o q e => hx₂ b o q e
    exact done h₂ tk m₁ (hsz ▸ hJ) F₂ N₂
  | some v =>
    have hlt' : i < vs.length := (List.getElem?_eq_some_iff.mp hv).1
    have heH : s.heap.objs.size + 1 < h.objs.size := Heap.lt_size he₁
    have hLH : env.locals < h.objs.size := F₁.ns.lt
    refine wpAny_pyNext_enum_item (s := { s with heap := h, toks := tk }) he₁ hit₁ hl₁ (x := v) (by simpa using hv) hei fun h₂ heo hit₂ ht₂ hz₂ hk₂ => ?_
    dsimp only at heo hit₂ ht₂ hz₂ hk₂
    refine wpAny_letOwnedTupleGo_enum heo fun h₃ he₃ hs₃ => ?_
    replace hs₃ : Heap.SameBut (s.heap.objs.size + 1) h₂ h₃ := hs₃
    have ht₃ : h₃.IsTuple h.objs.size #[.int i tk, v] := ⟨_, (hs₃.2 _ (Nat.ne_of_gt heH)).trans ht₂, rfl, _, rfl⟩
    have hz₃ : h₃.objs.size = h.objs.size + 1 := hs₃.1.trans hz₂
    obtain ⟨F₂, N₂⟩ := sameNews2 F₁ N₁ he0 hit0 (Nat.ne_of_gt (Nat.lt_succ_of_lt hLt)) (Nat.ne_of_gt hLt) (fun p hp => Nat.ne_of_lt (Nat.lt_succ_of_lt (hnI p hp))) (fun p hp => Nat.ne_of_lt (hnI p hp)) fun b o q q2 e => hs₃.extBut b o q (hk₂ b o q q2 e)
    have hit₃ : h₃.IsListIter s.heap.objs.size l (i + 1) := hit₂.extBut hs₃.extBut (Ne.symm hei)
    refine wpAny_assign_Tuple hh ht₃ rfl rfl fun h₄ hx₄ => ?_
    replace hx₄ : Heap.ExtBut h₃.objs.size h₃ h₄ := hx₄
    have old₄ : ∀ b o, h₃.get? b = some o → h₄.get? b = some o := fun b o x => hx₄ b o (Nat.ne_of_lt (Heap.lt_size x)) x
    have F₄ : Fr h₀ env.locals h₄ m₁ := F₂.keeps old₄
    have N₄ : News h₀ env.locals h₄ news := N₂.grown old₄
    show wpAny _ A (do holding [v] (assign (.Name xi pi) env (.int i tk)); do holding [] (assign (.Name xv pv) env v); pure ()) _ _ _
    refine wpAny_bind (wpAny_holding (wpAny_assign_Name (wpAny_storeName_local hxi F₄.ns (fun h₅ hn₅ hs₅ => ?_) hp)))
    have F₅ := F₄.set hn₅ hs₅
    have N₅ := N₄.set hs₅
    refine wpAny_bind (wpAny_holding (wpAny_assign_Name (wpAny_storeName_local hxv F₅.ns (fun h₆ hn₆ hs₆ => wpAny_pure ?_) hp)))
    have F₆ := F₅.set hn₆ hs₆
    have N₆ := N₅.set hs₆
    replace hs₅ : Heap.SameBut env.locals h₄ h₅ := hs₅
    replace hs₆ : Heap.SameBut env.locals h₅ h₆ := hs₆
    have he₆ : h₆.get? (s.heap.objs.size + 1) = some { cls := .type "enumerate", data := .fields #[.none, .bool false, .ref s.heap.objs.size, rawInt ((i : Int) + 1), .none, v] } := (hs₆.2 _ (Nat.ne_of_gt (Nat.lt_succ_of_lt hLt))).trans ((hs₅.2 _ (Nat.ne_of_gt (Nat.lt_succ_of_lt hLt))).trans (old₄ _ _ he₃))
    obtain ⟨oI, hoI, hcI, hdI⟩ := hit₃
    have hIo : h₆.get? s.heap.objs.size = some oI := (hs₆.2 _ (Nat.ne_of_gt hLt)).trans ((hs₅.2 _ (Nat.ne_of_gt hLt)).trans (old₄ _ _ hoI))
    have N₇ : News h₀ env.locals h₆ ((s.heap.objs.size + 1, _) :: (s.heap.objs.size, oI) :: news) := fun p hp => by
      rcases List.mem_cons.mp hp with rfl | hp
      · exact ⟨he₆, Nat.ne_of_gt (Nat.lt_succ_of_lt hLt), he0⟩
      · rcases List.mem_cons.mp hp with rfl | hp
        · exact ⟨hIo, Nat.ne_of_gt hLt, hit0⟩
        · exact N₆ p hp
    refine wpAny_passesOwn hE (wpAny_mono (turn i v tk m₁ h₆ _ (s.heap.objs.size + 1) s.heap.objs.size _ oI hv hJ (fun p hp => Nat.lt_succ_of_lt (hnI p hp)) hnI F₆ N₇) (fun f s₃ p => ?_) fun _ _ e => e)
    obtain ⟨rfl, h₈, tk₈, m₈, rfl, F₈, N₈, hJ'⟩ := p
    refine ⟨_, (by omega : vs.length + 1 - (i + 1) < vs.length + 1 - i), .mk (i + 1) m₈ h₈ tk₈ v hlt' hJ' F₈ (fun p hp => N₈ p (.tail _ (.tail _ hp))) ?_ ⟨oI, (N₈ _ (.tail _ (.head _))).1, hcI, hdI⟩⟩
    have := (N₈ _ (.head _)).1
    have e1 : ((i + 1 : Nat) : Int) = (i : Int) + 1 := by push_cast; rfl
    rw [e1]; exact this
end Mine
namespace Mine
theorem len_lst {prog : Program} {w : World} {A : Around} {E : Value → Shared → Prop} {s : Shared} {h₀ : Heap} {L l : Addr} {news : Led} {vs : List Value} {n : Nat} {Q : Value → Shared → Prop} (N : News h₀ L s.heap news) (hm : (l, W.listOf vs.toArray n) ∈ news) (hl : vs.length ≤ 1000)
    (h : Q (.int vs.length (s.toks + 1)) { s with toks := s.toks + 1 + 1 }) : wpAny (model prog w) A (call (.builtin "len") [.ref l]) Q E s :=
  Calls.call_len_list (items := vs.toArray) ⟨_, (N _ hm).1, rfl, n, rfl⟩ (by rw [List.size_toArray]; omega) (by rw [List.size_toArray]; exact h)
end Mine
namespace Mine
theorem list_copyA {prog : Program} {w : World} {A : Around} {E : Value → Shared → Prop} {s : Shared} {h₀ : Heap} {L l : Addr} {m : Str → Option Value} {news : Led} {vs : List Value} {n : Nat} {Q : Value → Shared → Prop} (F : Fr h₀ L s.heap m) (N : News h₀ L s.heap news) (hm : (l, W.listOf vs.toArray n) ∈ news) (hl : vs.length ≤ 1000)
    (h : ∀ D c h', Fr h₀ L h' m → News h₀ L h' ((D, W.listOf vs.toArray c) :: news) → (∀ q ∈ news, q.1 < D) → Q (.ref D) { s with heap := h' }) : wpAny (model prog w) A (call (.type "list") [.ref l]) Q E s :=
  list_copyK F N ⟨_, (N _ hm).1, rfl, n, rfl⟩ h (by rw [List.size_toArray, sizeLine_eq]; omega)
end Mine
end
section
namespace Mine
theorem mul_one {prog : Program} {w : World} {A : Around} {E : Value → Shared → Prop} {s : Shared} {h₀ : Heap} {L l : Addr} {m : Str → Option Value} {news : Led} {v : Value} {n : Nat} {x : Int} {u : Tok} {Q : Value → Shared → Prop} (Fm : Fr h₀ L s.heap m) (N : News h₀ L s.heap news) (hm : (l, W.listOf [v].toArray n) ∈ news) (h0 : 0 ≤ x) (h1 : x ≤ 1000)
    (h : ∀ D h', Fr h₀ L h' m → News h₀ L h' ((D, W.listOf (List.replicate x.toNat v).toArray 0) :: news) → (∀ p ∈ news, p.1 < D) → Q (.ref D) { s with heap := h' }) : wpAny (model prog w) A (binaryOp .Mult (.ref l) (.int x u)) Q E s := by
  have ho := (N _ hm).1
  have hz : [v].toArray.size * x.toNat ≤ 1000 := by rw [List.size_toArray]; show 1 * x.toNat ≤ 1000; omega
  refine wpAny_binaryOp_repeat_ref (T := "list") (U := "int") (by decide) ⟨_, ho, rfl⟩ (fun s' => typeIs_int s' x u) noFill_list_mul F.fills_int_mul F.slot_int_rmul repeat_list F.slot_int_index.lookup
    (call_meets F.slot_int_rmul (typeIs_int s x u) F.entry_int_rmul (F.args_int_rmul_2 _ _) (lm_int_rmul_list_any x u l [v].toArray n none #[])
      ⟨ho, rfl, ⟨_, ho, rfl⟩, call_meets F.slot_list_mul ⟨_, ho, rfl⟩ F.entry_list_mul (F.args_list_mul_2 _ _)
        (lm_list_mul_any l [v].toArray n none #[] x u (by simp [Builtin.List.listFitsIndex]; omega) (by omega) (by simp [Builtin.List.listTooLong, sizeLine]; omega)) ⟨ho, ?_⟩⟩)
  have N' := News.push Fm N { cls := Value.type "list", data := Data.seq (List.foldl (fun x1 x2 => x1 ++ x2) #[] (List.replicate (if [v].toArray.isEmpty = true then 0 else x.toNat) [v].toArray)) }
  have e : List.foldl (fun x1 x2 => x1 ++ x2) #[] (List.replicate (if [v].toArray.isEmpty = true then 0 else x.toNat) [v].toArray) = (List.replicate x.toNat v).toArray := by
    rw [listMul_foldl_if]
    congr 1
    generalize x.toNat = k
    induction k with
    | zero => rfl
    | succ k ih => rw [List.replicate_succ, List.flatten_cons, ih, List.replicate_succ]; rfl
  rw [e] at N' ⊢
  exact h _ _ (Fm.push _) N' (fun p hp => Heap.lt_size (N p hp).1)
end Mine
namespace Mine
theorem small_up {b : Int} (hb : 1 ≤ b) (hb' : b ≤ 100000) : Builtin.Range.small 0 b 1 = true := by
  unfold Builtin.Range.small
  rw [rangeSize_one]
  simp only [Builtin.Range.rangeFitsLong, Bool.and_eq_true, Bool.or_eq_true, decide_eq_true_eq, beq_iff_eq, show ((1 : Int) > 0) by decide, if_true]
  split <;> omega
open LCg
theorem comp_ind {prog : Program} {w : World} {A : Around} {s : Shared} {h₀ : Heap} {L : Addr} {m : Str → Option Value} {env : Env} {elt : Expr} {x : Str} {scope : Scope} {cl : List (Str × Addr)} {S : Led → Prop} {P : Nat → Value → Prop} {Fin : List Value → Led → Prop} {n : Nat} {news : Led} (Inv : Nat → List Value → Led → Prop)
    (step : ∀ i ys nw v I oI C oC D m₂ h tk (E' : Value → Shared → Prop) (rest : Value → Led → Prop), i < n → Inv i ys nw → P i v → NsObj oC m₂ → m₂ x = some v → Fr h₀ L h m → News h₀ L h ((I, oI) :: (C, oC) :: (D, lst ys) :: nw) → Off3 I C D nw → ((@Ne Nat I C) ∧ (@Ne Nat I D) ∧ (@Ne Nat C D)) → (∀ y nw', Inv (i + 1) (ys ++ [y]) nw' → rest y nw') →
      wpAny (model prog w) A (eval elt (compEnvC scope cl C env)) (CompEnd h₀ L m { s with heap := h, toks := tk } I oI C oC D (lst ys) S rest) E' { s with heap := h, toks := tk })
    (fin : ∀ ys nw, Inv n ys nw → Fin ys nw) (h0 : Inv 0 [] news) : CompRest prog w A h₀ L m env elt x scope cl s S P Fin n 0 [] news := by
  have go : ∀ k i ys nw, i + k = n → Inv i ys nw → CompRest prog w A h₀ L m env elt x scope cl s S P Fin k i ys nw := by
    intro k
    induction k with
    | zero => intro i ys nw e inv; exact fin ys nw ((show i = n from e) ▸ inv)
    | succ k ih => intro i ys nw e inv v I oI C oC D m₂ h tk E' hP hC hx F N off ne; exact step i ys nw v I oI C oC D m₂ h tk E' _ (by omega) inv hP hC hx F N off ne fun y nw' inv' => ih (i + 1) _ _ (by omega) inv'
  exact go n 0 [] news (Nat.zero_add n) h0
end Mine
namespace Mine
theorem fmB {z k : Int} (hk : 0 < k) : 0 ≤ z.fmod k ∧ z.fmod k < k := by
  rw [Int.fmod_eq_emod_of_nonneg _ (Int.le_of_lt hk)]
  exact ⟨Int.emod_nonneg _ (by omega), Int.emod_lt_of_pos _ hk⟩
theorem wide_lo {z B : Int} (hB : B = 4294967296) : -3 ≤ z.fmod B - 3 := by have := (fmB (z := z) (k := B) (by omega)).1; omega
theorem wide_hi {z B : Int} (hB : B = 4294967296) : z.fmod B - 3 ≤ 4294967292 := by have := (fmB (z := z) (k := B) (by omega)).2; omega
theorem ints_repl {x : Int} {t : Tok} : ∀ n : Nat, IntsAre (List.replicate n (.int x t)) (List.replicate n x)
  | 0 => .nil
  | n + 1 => .cons x t (ints_repl n)
def depOf (deep pl : Int) : List Int := if deep.fmod 5 = 0 then (rangeKs 0 pl.toNat).map fun k => (deep.fdiv 5 + 3 * k).fmod 19 - 1 else List.replicate pl.toNat (deep.fmod 19 - 1)
theorem depA {deep pl : Int} {vs : List Value} (h : deep.fmod 5 = 0) (hi : IntsAre vs ((rangeKs 0 (pl - 0).toNat).map fun k => (deep.fdiv 5 + 3 * k).fmod 19 - 1)) : IntsAre vs (depOf deep pl) := by
  rw [Int.sub_zero] at hi
  unfold depOf
  rw [if_pos h]; exact hi
theorem depB {deep pl : Int} {t : Tok} (h : deep.fmod 5 ≠ 0) : IntsAre (List.replicate pl.toNat (.int (deep.fmod 19 - 1) t)) (depOf deep pl) := by
  unfold depOf
  rw [if_neg h]; exact ints_repl _
theorem cellFront {h₀ h : Heap} {L d : Addr} {o : Obj} {v : Option Value} {rest nw : Led} (N : News h₀ L h nw) (hne : ∀ p ∈ rest, p.1 ≠ d) (hs : ∀ p ∈ (d, o) :: rest, p ∈ nw) (ho : o.data = .cell v) :
    ∃ nw2, News h₀ L h ((d, o) :: nw2) ∧ (∀ p ∈ rest, p ∈ nw2) ∧ (∀ p ∈ nw2, p.1 ≠ d) ∧ ∀ a o', (a, o') ∈ nw → (∃ vs n, o'.data = .seq vs n) → (a, o') ∈ nw2 := by
  refine ⟨nw.filter fun p => p.1 != d, fun p hp => ?_, fun p hp => ?_, fun p hp => ?_, fun a o' ha ⟨vs, n, hsq⟩ => ?_⟩
  · rcases List.mem_cons.mp hp with rfl | hp
    · exact N _ (hs _ (.head _))
    · exact N _ (List.mem_filter.mp hp).1
  · exact List.mem_filter.mpr ⟨hs p (.tail _ hp), by simpa using hne p hp⟩
  · simpa using (List.mem_filter.mp hp).2
  · refine List.mem_filter.mpr ⟨ha, ?_⟩
    simp only [bne_iff_ne, ne_eq]
    rintro rfl
    have e1 := (N _ ha).1
    have e2 := (N _ (hs _ (.head _))).1
    rw [e1] at e2
    cases e2
    rw [hsq] at ho
    cases ho
end Mine
namespace Mine
theorem news_third {h₀ h : Heap} {L : Addr} {a b c : Addr × Obj} {r : Led} (N : News h₀ L h (a :: b :: c :: r)) : News h₀ L h (c :: a :: b :: r) := fun p hp => N p (by
  simp only [List.mem_cons] at hp ⊢
  rcases hp with h | h | h | h
  · exact .inr (.inr (.inl h))
  · exact .inl h
  · exact .inr (.inl h)
  · exact .inr (.inr (.inr h)))
theorem news_fourth {h₀ h : Heap} {L : Addr} {a b c d : Addr × Obj} {r : Led} (N : News h₀ L h (a :: b :: c :: d :: r)) : News h₀ L h (d :: a :: b :: c :: r) := fun p hp => N p (by
  simp only [List.mem_cons] at hp ⊢
  rcases hp with h | h | h | h | h
  · exact .inr (.inr (.inr (.inl h)))
  · exact .inl h
  · exact .inr (.inl h)
  · exact .inr (.inr (.inl h))
  · exact .inr (.inr (.inr (.inr h))))
end Mine
namespace Mine
theorem min_lst {prog : Program} {w : World} {A : Around} {E : Value → Shared → Prop} {s : Shared} {h₀ : Heap} {L l : Addr} {m : Str → Option Value} {news : Led} {vs : List Value} {ns : List Int} {n : Nat} {Q : Value → Shared → Prop} (hh : A.handled = none) (F : Fr h₀ L s.heap m) (N : News h₀ L s.heap news)
    (hm : (l, W.listOf vs.toArray n) ∈ news) (hi : IntsAre vs ns) (hne : 0 < ns.length)
    (h : ∀ h' M (t : Tok) tk, Fr h₀ L h' m → News h₀ L h' news → M ∈ ns → (∀ a, a ∈ ns → M ≤ a) → Q (.int M t) { s with heap := h', toks := tk }) : wpAny (model prog w) A (call (.builtin "min") [.ref l]) Q E s :=
  min_list_N hh F N ⟨_, (N _ hm).1, rfl, _, rfl⟩ hi hne h
theorem max_lst {prog : Program} {w : World} {A : Around} {E : Value → Shared → Prop} {s : Shared} {h₀ : Heap} {L l : Addr} {m : Str → Option Value} {news : Led} {vs : List Value} {ns : List Int} {n : Nat} {Q : Value → Shared → Prop} (hh : A.handled = none) (F : Fr h₀ L s.heap m) (N : News h₀ L s.heap news)
    (hm : (l, W.listOf vs.toArray n) ∈ news) (hi : IntsAre vs ns) (hne : 0 < ns.length)
    (h : ∀ h' M (t : Tok) tk, Fr h₀ L h' m → News h₀ L h' news → M ∈ ns → (∀ a, a ∈ ns → a ≤ M) → Q (.int M t) { s with heap := h', toks := tk }) : wpAny (model prog w) A (call (.builtin "max") [.ref l]) Q E s :=
  max_list_N hh F N ⟨_, (N _ hm).1, rfl, _, rfl⟩ hi hne h
end Mine
namespace Mine
theorem pow_tab : ∀ n, n < 18 → 1 ≤ n → 2 ≤ (2 : Int) ^ n ∧ (2 : Int) ^ n ≤ 1000000 := by decide +kernel
theorem pow_top {prog : Program} {w : World} {A : Around} {E : Value → Shared → Prop} {s : Shared} {e : Int} {t u : Tok} {Q : Value → Shared → Prop} (h0 : 1 ≤ e) (h1 : e ≤ 17)
    (h : ∀ v, 2 ≤ v → v ≤ 1000000 → Q (.int v s.toks) { s with toks := s.toks + 1 }) : wpAny (model prog w) A (binaryOp .Pow (.int 2 t) (.int e u)) Q E s := by
  have b : 2 ≤ (2 : Int) ^ e.toNat ∧ (2 : Int) ^ e.toNat ≤ 1000000 := pow_tab e.toNat (by omega) (by omega)
  exact pow_int_small (by omega) (by omega) (by decide) (h _ b.1 b.2)
theorem ite_min (x y : Int) : (if y < x then y else x) = min x y := by split <;> omega
theorem ite_max (x y : Int) : (if x < y then y else x) = max x y := by split <;> omega
theorem ite_max2 (x y : Int) : (if y > x then y else x) = max x y := by split <;> omega
theorem ex_min {M : Int} {qs : List Int} (h : M ∈ qs) (k : ∀ a, a ∈ qs → M ≤ a) (c : Int) : (∃ q ∈ qs, q < c) ↔ M < c := ⟨fun ⟨q, hq, e⟩ => Int.lt_of_le_of_lt (k q hq) e, fun e => ⟨M, h, e⟩⟩
theorem ex_max {M : Int} {qs : List Int} (h : M ∈ qs) (k : ∀ a, a ∈ qs → a ≤ M) (c : Int) : (∃ q ∈ qs, c < q) ↔ c < M := ⟨fun ⟨q, hq, e⟩ => Int.lt_of_lt_of_le e (k q hq), fun e => ⟨M, h, e⟩⟩
end Mine
namespace Mine
theorem news_drop {h₀ h : Heap} {L : Addr} {a : Addr × Obj} {r : Led} (N : News h₀ L h (a :: r)) : News h₀ L h r := fun p hp => N p (.tail _ hp)
end Mine
namespace Mine
theorem item_lst {prog : Program} {w : World} {A : Around} {E : Value → Shared → Prop} {s : Shared} {h₀ : Heap} {L l : Addr} {news : Led} {vs : List Value} {n : Nat} {value slice : PySem.Expr} {k : Int} {u : Tok} {v : Value} {Q : Value → Shared → Prop} (N : News h₀ L s.heap news)
    (hm : (l, W.listOf vs.toArray n) ∈ news) (h0 : 0 ≤ k) (hhi : k < 2 ^ 63) (hx : vs[k.toNat]? = some v) (h : Q v s)
    (hs : subscripted slice false (.ref l) (.int k u) = operate [.ref l, .int k u] (getItem (.ref l) (.int k u)) := by with_unfolding_all rfl) :
    wpAny (model prog w) A (subscriptTail value slice (.ref l) (.int k u)) Q E s :=
  have hl : s.heap.IsList l vs.toArray := ⟨_, (N _ hm).1, rfl, _, rfl⟩
  tail_any hl.typeIs slot_list_getitem.lookup (wpAny_getItem_list hl h0 hhi (by simpa using hx) h) hs
end Mine
namespace Mine
theorem tup_lst {prog : Program} {w : World} {A : Around} {E : Value → Shared → Prop} {s : Shared} {h₀ : Heap} {L l : Addr} {m : Str → Option Value} {news : Led} {vs : List Value} {n : Nat} {Q : Value → Shared → Prop} (F : Fr h₀ L s.heap m) (N : News h₀ L s.heap news)
    (hm : (l, W.listOf vs.toArray n) ∈ news) (hl : vs.length ≤ 1000)
    (h : ∀ D h', Fr h₀ L h' m → News h₀ L h' ((D, ({ cls := .type "tuple", data := .seq vs.toArray } : Obj)) :: news) → (∀ p ∈ news, p.1 < D) → Q (.ref D) { s with heap := h' }) : wpAny (model prog w) A (call (.type "tuple") [.ref l]) Q E s :=
  kde_tupleOf F N ⟨_, (N _ hm).1, rfl, _, rfl⟩ (by rw [List.size_toArray]; omega) rfl h
end Mine
end
section
namespace Mine
theorem caughtP {prog : Program} {w : World} {A₀ : Around} {E : Value → Shared → Prop} {s' : Shared} {h₀ : Heap} {l : List Env} {L a e : Addr} {a0 : Value} {m : Str → Option Value} {name : Str} {scope : Scope} {cd : Value} {oL : Obj} {frs : Led}
    {b₀ : Stmt} {suite : List Stmt} {pos np : Pos} {rest : List ExceptHandler} {Q : Flow → Shared → Prop} {KF : Frag} {C : Addr} {bmB : List Value} {newId : String}
    {p : Program} {loose : List Str} {mean : ExcName → Option Value} {mg mb : Str → Option Value} {x : Str}
    (hfr : A₀.frames = some l) (hfl : Heap.FlyingW h₀ (envOfC name scope L a cd :: l) e (.ref C) a0 s'.heap) (up : Up ((L, oL) :: frs) s'.heap) (Cl : TI.Caller h₀ L m oL)
    (X : KF.In h₀) (T : Top p loose mean mg mb h₀) (ex : nsIn KF mainGlobals x = some (some (.ref C))) (q : excIn KF C bmB newId = true) (hbase : bmB.contains (.type "BaseException") = true)
    (k : ∀ h', Fr h₀ L h' m → wpAny (model prog w) ((A₀.deeper (envOfC name scope L a cd)).mark (some (.ref e))) (execs (b₀ :: suite) (envOfC name scope L a cd)) Q E { s' with heap := h' })
    (hk : scope.kind = .function := by rfl) (hx : (envOfC name scope L a cd).kindOf x = some .globalImplicit := by rfl) (hd : (x == ("__debug__" : Str)) = false := by decide)
    (hE : PassesOwnAt (model prog w) ((A₀.deeper (envOfC name scope L a cd)).mark (some (.ref e))) (A₀.deeper (envOfC name scope L a cd)) (envOfC name scope L a cd) E := by passes_own) :
    wpAny (model prog w) (A₀.deeper (envOfC name scope L a cd)) (noteFrame (.ref e) (envOfC name scope L a cd))
      (fun _ s₂ => wpAny (model prog w) (A₀.deeper (envOfC name scope L a cd)) (setFlight (.ref e) none) (fun _ s₃ =>
        wpAny (model prog w) (A₀.deeper (envOfC name scope L a cd)) (handleBy (.ref e) (envOfC name scope L a cd) (.ExceptHandler (some (.Name x np)) none (b₀ :: suite) pos :: rest)) Q E s₃) E s₂) E s' := by
  refine wpAny_looks_onW (Around.frames_deeper hfr) rfl hfl fun h₄ hheld₄ hsm₄ => ?_
  refine wpAny_landsW hheld₄ fun h₅ hheld hsm₅' => ?_
  have hsm₅ := hsm₄.trans hsm₅'
  have F0 : Fr h₀ L s'.heap m := by obtain ⟨sl, e⟩ := up _ (.head _); exact ⟨Cl.ns _ sl e, hfl.1, Cl.above⟩
  have F₅ := F0.of_stays hheld.1 hsm₅
  obtain ⟨ob, hob, hobc⟩ := hheld.there
  refine wpAny_handleBy_cons (codeAny_handlers_test (nameX_K F₅ X (topRead_of T) ex ?_ hk hx hd)) (by intro q; cases q)
  obtain ⟨bm, N, nm, qn, bs, hdct, sn, sub, ab, col, dd, k0, k1, k2, k3, k5, mN, hC, hN, hni, TL⟩ := ((own_of_in X (topRead_of T) ex q).keeps F₅.keep).obj
  refine wpAny_excMatches_sub_self hC hob hobc (TL.hasType hbase) (codeAny_handlers_suite ?_)
  refine lands_againW hheld fun h₆ hfl₆ hsm₆ => ?_
  have F₆ := F0.of_stays hfl₆.1 (hsm₅.trans hsm₆)
  exact wpAny_passesOwnAt hE (k h₆ F₆)
end Mine
end
def Mine.hand (p : String) (s : Lean.TSyntax `str) : Lean.MacroM Lean.Syntax := `(tactic| k_extra $(Lean.Syntax.mkStrLit (p ++ s.getString)))
def Mine.pad : Lean.MacroM Lean.Syntax := `(tactic| skip)
theorem Mine.k0 : True := by
 k_with "s mine sub2" => ((repeat (first | exact fun _ h9 => h9 | assumption | refine Mine.sub_cons ?_ | refine Mine.sub_app ?_)))
 k_with "s mine len" => ((repeat' (first | (with_reducible assumption) | (with_reducible refine Mine.len_app ?_ ?_) | ((with_reducible refine Mine.len_int ?_ ?_) <;> omega) | ((with_reducible refine Mine.len_lit ?_); decide +kernel) | (with_reducible exact Mine.len_empty))))
 k_with "s joinParts" => (((with_reducible show wpAny _ _ (joinParts _ (evalEach [] _)) _ _ _); k_dflt (refine' Mine.len_ends ?_ ?kl3q; (case kl3q => walk_at "mine len"))))
 k_with "s mine sub" => ((repeat (first | assumption | exact fun _ h9 => h9 | refine Mine.sub_cons ?_ | refine Mine.sub_app ?_)))
 k_with "s mine enter" => ((refine' Mine.enterF ?kF5q ?kX5q ?kN5q ?kT5q ?kFs5q ?ksub5q ?kA5q ?kf5q ?kke5q ?k65q ?k75q ?k85q ?k95q ?kB5q ?_ ?c25q ?c35q ?c45q ?c55q; (case kA5q => exact rfl); (case kf5q => exact rfl); (case kke5q => first | assumption | exact rfl); (case kF5q => k_asm); (case kX5q => k_asm); (case kN5q => k_asm); (case kT5q => k_asm); (case kFs5q => assumption); (case ksub5q => walk_at "mine sub"); (case k65q => k_is); (case k75q => k_is); (case k85q => first | ktr_room | k_room); (case k95q => first | exact BindsTo.of_eq rfl | exact binds_K (by k_in) rfl (by k_is) rfl rfl rfl | fail "mine enter: no rule for these arguments"); (case c55q => decide); (case kB5q => exact locs rfl); (case c25q => exact rfl); (case c35q => exact rfl); (case c45q => exact rfl); k_whole; intro oL'5q L'5q h'5q C'5q Fs'5q sub'5q lt'5q up'5q ne'5q F'5q N'5q; (try dsimp only); (try k_lt lt'5q); (try k_fold)))
 k_with "s mine enterC" => ((refine' Mine.enterFC ?kF6q ?kX6q ?kN6q ?kT6q ?kFs6q ?ksub6q ?kA6q ?kf6q ?kke6q ?k66q ?k76q ?k86q ?k96q ?kB6q ?kD6q ?_ ?c26q ?c36q ?c46q; (case kA6q => exact rfl); (case kf6q => exact rfl); (case kke6q => first | assumption | exact rfl); (case kF6q => k_asm); (case kX6q => k_asm); (case kN6q => k_asm); (case kT6q => k_asm); (case kFs6q => assumption); (case ksub6q => walk_at "mine sub"); (case k66q => k_is); (case k76q => k_is); (case k86q => first | ktr_room | k_room); (case k96q => first | exact BindsTo.of_eq rfl | exact binds_K (by k_in) rfl (by k_is) rfl rfl rfl | fail "mine enter: no rule for these arguments"); (case kB6q => exact rfl); (case kD6q => decide +kernel); (case c26q => exact rfl); (case c36q => exact rfl); (case c46q => exact rfl); k_whole; intro oL'6q L'6q h'6q tk'6q cells'6q C'6q Fs'6q sub'6q lt'6q up'6q ne'6q F'6q N'6q Y'6q; have nex' := Mine.ne_succ lt'6q; k_cells Y'6q; (try simp only [List.cons_append, List.nil_append] at N'6q); (try dsimp only); (try k_lt lt'6q); (try k_fold)))
 k_with "s call builtin:len" => ((k_here; (with_reducible show wpAny _ _ (call (Value.builtin "len") [Value.int _ _]) _ _ _); (with_unfolding_all refine' Mine.len_int_raises ?k07q ?_; (case k07q => rfl); k_whole); intro h'7q tk'7q e'7q x'7q))
 k_with "s call ref" => ((k_here; k_dflt (first | ((refine wpAny_call ?_); (first | walk_at "mine enter" | walk_at "mine enterC")) | (refine' call_cls ?k18q ?k28q ?k38q ?k48q ?k58q ?k68q ?_; (case k18q => k_asm); (case k28q => k_asm); (case k38q => k_asm); (case k48q => k_is); (case k58q => k_is); (case k68q => k_is); k_whole; intro x'8q d'8q h'8q F'8q N'8q l18q l28q; (try k_lt l18q); (try k_lt2 l28q); (try k_sweep); walk_at "mine enter"))))
 k_with "s leaving ref" => ((k_here; k_dflt (first | (refine' Mine.leaveMade ?kA9q ?kFs9q ?ksub9q ?kx9q ?kF9q ?kN9q ?_; (case kA9q => exact rfl); (case kx9q => assumption); (case kF9q => assumption); (case kFs9q => assumption); (case kN9q => k_asm); (case ksub9q => walk_at "mine sub"); k_whole; intro h'9q t'9q fl'9q up'9q) | (refine' Mine.leaveMadeC ?kA9q ?kf9q ?kk9q ?kFs9q ?ksub9q ?kx9q ?kF9q ?kN9q ?_; (case kA9q => exact rfl); (case kf9q => exact rfl); (case kk9q => exact rfl); (case kx9q => assumption); (case kF9q => assumption); (case kFs9q => assumption); (case kN9q => k_asm); (case ksub9q => walk_at "mine sub"); k_whole; intro h'9q t'9q fl'9q up'9q) | (refine' Mine.leaveOn ?kA9q ?kf9q ?kFs9q ?kx9q ?ku9q ?_; (case kA9q => exact rfl); (case kf9q => exact rfl); (case kFs9q => assumption); (case kx9q => assumption); (case ku9q => assumption); k_whole; intro h'9q fl'9q up'9q))))
 k_with "s mine here" => ((refine' Mine.Here.mk ?F10q ?X10q ?N10q ?T10q ?Fs10q ?sub10q ?k10q ?d10q ?u10q; (case F10q => k_asm); (case X10q => k_asm); (case N10q => k_asm); (case T10q => k_asm); (case Fs10q => assumption); (case sub10q => walk_at "mine sub"); (case k10q => first | exact rfl | assumption); (case d10q => first | ktr_room | k_room); (case u10q => first | ktr_units | exact Nat.le_of_ble_eq_true rfl)))
 k_with "s mine look" => (first | assumption | exact Mine.look_hit | (refine Mine.look_miss (by decide) ?_; walk_at "mine look"))
 k_with "s eval Name" => ((k_here; (with_reducible show wpAny _ _ (eval (Expr.Name _ _) (envOf _ _ _ _ _)) _ _ _); k_dflt (refine' ld ?k112q ?k212q ?_; (case k112q => k_asm); (case k212q => walk_at "mine look"); k_whole)))
 k_with "s eval Name" => ((k_here; (with_reducible show wpAny _ _ (eval (Expr.Name _ _) (envOfC _ _ _ _ _)) _ _ _); k_dflt (first | (refine' nameX_L ?k113q ?k213q ?_ ?k413q ?k513q; (case k413q => rfl); (case k513q => rfl); (case k113q => k_asm); (case k213q => walk_at "mine look"); k_whole) | (refine' nameX_C ?N13q ?c13q ?m13q ?d13q ?_ ?a13q ?b13q; (case a13q => rfl); (case b13q => rfl); (case N13q => k_asm); (case c13q => rfl); (case m13q => k_mem); (case d13q => k_asm); k_whole))))
 k_with "s eval Name" => ((k_here; (with_reducible show wpAny _ _ (eval (Expr.Name _ _) (compEnvC _ _ _ _)) _ _ _); k_dflt (first | refine LCgL.ld_own (by k_asm) (by k_mem) (by assumption) (by assumption) ?_ | (refine' lcf_free ?N14q ?c14q ?m14q ?d14q ?_ ?a14q ?b14q; (case a14q => rfl); (case b14q => rfl); (case N14q => k_asm); (case c14q => rfl); (case m14q => k_mem); (case d14q => k_asm); k_whole))))
 k_with "s mine lit" => (((repeat (conv in Mine.initScope => whnf)); (repeat (conv in Mine.fnScope _ => whnf))))
 k_with "s LeaveM" => ((k_here; (with_reducible rename TI.Caller _ _ _ _ => c916q); k_dflt (first | (refine' Mine.leaveM (pre := []) ?kC16q ?kF16q ?kN16q ?kp16q ?kq16q ?_; (case kC16q => exact c916q); (case kF16q => k_asm); (case kN16q => k_asm); (case kp16q => k_all); (case kq16q => k_all); k_whole) | (refine' Mine.leaveM (pre := [_]) ?kC16q ?kF16q ?kN16q ?kp16q ?kq16q ?_; (case kC16q => exact c916q); (case kF16q => k_asm); (case kN16q => k_asm); (case kp16q => k_all); (case kq16q => k_all); k_whole) | (refine' Mine.leaveM (pre := [_, _]) ?kC16q ?kF16q ?kN16q ?kp16q ?kq16q ?_; (case kC16q => exact c916q); (case kF16q => k_asm); (case kN16q => k_asm); (case kp16q => k_all); (case kq16q => k_all); k_whole) | (refine' Mine.leaveM (pre := [_, _, _]) ?kC16q ?kF16q ?kN16q ?kp16q ?kq16q ?_; (case kC16q => exact c916q); (case kF16q => k_asm); (case kN16q => k_asm); (case kp16q => k_all); (case kq16q => k_all); k_whole) | (refine' Mine.leaveM (pre := [_, _, _, _]) ?kC16q ?kF16q ?kN16q ?kp16q ?kq16q ?_; (case kC16q => exact c916q); (case kF16q => k_asm); (case kN16q => k_asm); (case kp16q => k_all); (case kq16q => k_all); k_whole) | (refine' Mine.leaveM (pre := [_, _, _, _, _]) ?kC16q ?kF16q ?kN16q ?kp16q ?kq16q ?_; (case kC16q => exact c916q); (case kF16q => k_asm); (case kN16q => k_asm); (case kp16q => k_all); (case kq16q => k_all); k_whole) | (refine' Mine.leaveM (pre := [_, _, _, _, _, _]) ?kC16q ?kF16q ?kN16q ?kp16q ?kq16q ?_; (case kC16q => exact c916q); (case kF16q => k_asm); (case kN16q => k_asm); (case kp16q => k_all); (case kq16q => k_all); k_whole) | (refine' Mine.leaveM (pre := [_, _, _, _, _, _, _]) ?kC16q ?kF16q ?kN16q ?kp16q ?kq16q ?_; (case kC16q => exact c916q); (case kF16q => k_asm); (case kN16q => k_asm); (case kp16q => k_all); (case kq16q => k_all); k_whole) | (refine' Mine.leaveM (pre := [_, _, _, _, _, _, _, _]) ?kC16q ?kF16q ?kN16q ?kp16q ?kq16q ?_; (case kC16q => exact c916q); (case kF16q => k_asm); (case kN16q => k_asm); (case kp16q => k_all); (case kq16q => k_all); k_whole)); clear c916q; intro F'16q N'16q; (try simp only [List.nil_append, List.cons_append] at N'16q); (try dsimp only)))
 k_with "s pyReprObj ref" => ((k_here; k_dflt (refine' Mine.repr_tup ?F17q ?N17q ?m17q ?i17q ?ne17q ?l17q ?b17q ?g17q ?u17q ?_; (case F17q => k_asm); (case N17q => k_asm); (case m17q => k_mem); (case i17q => first | assumption | exact IntsAre.cons _ _ IntsAre.nil | exact IntsAre.cons _ _ (IntsAre.cons _ _ IntsAre.nil) | exact IntsAre.cons _ _ (IntsAre.cons _ _ (IntsAre.cons _ _ IntsAre.nil)) | exact IntsAre.cons _ _ (IntsAre.cons _ _ (IntsAre.cons _ _ (IntsAre.cons _ _ IntsAre.nil)))); (case ne17q => first | assumption | exact List.cons_ne_nil _ _); (case l17q => first | omega | exact Nat.le_of_ble_eq_true rfl); (case b17q => first | assumption | (intro n917q hn917q; simp only [List.mem_cons, List.not_mem_nil, or_false] at hn917q; omega)); (case g17q => rfl); (case u17q => first | ktr_units | exact Nat.le_of_ble_eq_true rfl)); intro X'17q u'17q h'17q tk'17q hX'17q F'17q N'17q; (try k_sweep)))
 k_with "s binaryOp Pow int int" => ((k_here; k_dflt (first | (refine' Mine.pow31 ?hB18q ?_; (case hB18q => assumption)) | (refine' Mine.pow32 ?hB18q ?_; (case hB18q => assumption)))))
 k_with "s unbindName" => ((k_here; k_dflt (refine' Mine.dlN ?F19q ?N19q ?v19q ?_; (case F19q => k_asm); (case N19q => k_asm); (case v19q => walk_at "mine look")); intro h'19q u'19q F'19q N'19q; (try k_sweep)))
 k_with "s noteFrame ref" => ((k_here; k_dflt (refine' TLg.noted_newA (new := _) (frs := _) ?kA20q ?kFs20q ?kx20q ?kF20q ?kN20q ?kp20q ?_; (case kA20q => exact rfl); (case kFs20q => assumption); (case kx20q => assumption); (case kF20q => assumption); (case kN20q => assumption); (case kp20q => assumption)); intro h'20q frs'20q up'20q Fs'20q tiH'20q; have tiHH' := TT.HeldNA.held tiH'20q))
 k_with "s handleBy" => ((k_here; k_dflt (refine' Mine.clauseTE ?H21q ?X21q ?T21q ?e21q ?_; (case H21q => assumption); (case X21q => k_asm); (case T21q => k_asm); (case e21q => k_is)); intro h'21q F'21q N'21q))
 k_with "s call builtin:len" => ((k_here; (with_reducible show wpAny _ _ (call (Value.builtin "len") [Value.ref _]) _ _ _); k_dflt (refine' Mine.len_tupL ?N22q ?m22q ?e22q ?l22q ?_; (case N22q => k_asm); (case m22q => k_mem); (case e22q => with_reducible first | exact Mine.lq1 | exact Mine.lq2 | exact Mine.lq3 | exact Mine.lq4 | exact Mine.lq0 | exact Mine.lq5 | exact rfl); (case l22q => first | omega | exact Nat.le_of_ble_eq_true rfl); k_whole)))
 k_with "s call type:bool" => ((k_here; (with_reducible show wpAny _ _ (call (Value.type "bool") [Value.ref _]) _ _ _); k_dflt (first | (refine' Mine.bool_lst ?N23q ?m23q ?l23q ?_; (case N23q => k_asm); (case m23q => assumption); (case l23q => first | omega | exact Nat.le_of_ble_eq_true rfl); k_whole) | (refine' Mine.bool_cls ?X23q ?h123q ?h223q ?_; (case X23q => k_in); (case h123q => k_is); (case h223q => k_is); k_whole))))
 k_with "s truthy ref" => ((k_here; (with_reducible show wpAny _ _ (truthy (Value.ref _)) _ _ _); k_dflt (refine' Mine.truthy_lst ?N24q ?m24q ?l24q ?_; (case N24q => k_asm); (case m24q => assumption); (case l24q => first | omega | exact Nat.le_of_ble_eq_true rfl); k_whole)))
 k_with "s compareOp Is" => ((k_here; (with_reducible show wpAny _ _ (compareOp CmpOp.Is (Value.bool _) (Value.ref _)) _ _ _); k_dflt (refine wpAny_is_other (by rfl) (by intro x; cases x) ?_)))
 k_with "s subscriptTail" => ((k_here; (with_reducible show wpAny _ _ (subscriptTail _ _ (Value.ref _) (Value.bool _)) _ _ _); k_dflt (refine' Mine.item_tuple_bool ?T26q ?j26q ?x ?_; (case T26q => first | assumption | exact Fr.tup (by assumption) (by assumption) | exact News.isTup (by assumption) (by first | exact .head _ | exact .tail _ (.head _) | exact .tail _ (.tail _ (.head _)) | exact .tail _ (.tail _ (.tail _ (.head _))) | assumption)); (case j26q => rfl); (case x => rfl))))
 k_with "s inplaceOp Mult ref int" => ((k_here; k_dflt (refine' Mine.imul_tup1 ?F27q ?N27q ?m27q ?a27q ?b27q ?_; (case F27q => k_asm); (case N27q => k_asm); (case m27q => assumption); (case a27q => first | assumption | omega); (case b27q => first | assumption | omega)); intro c'27q h'27q news'27q F'27q N'27q m'27q sub'27q))
 k_with "s loadName" => ((k_here; k_dflt (refine' ldn ?k128q ?k228q ?_; (case k128q => k_asm); (case k228q => walk_at "mine look"); k_whole)))
 k_with "s setAttr ref" => ((k_here; k_dflt (refine' Mine.set_field ?F29q ?X29q ?N29q ?x ?d29q ?U29q ?e29q ?l29q ?k29q ?n29q ?s29q ?p29q ?t29q ?h29q ?_; (case F29q => k_asm); (case X29q => k_asm); (case N29q => k_asm); (case x => k_mem); (case d29q => k_mem); (case U29q => k_updF); (case e29q => assumption); (case l29q => exact Nat.le_of_ble_eq_true rfl); (case k29q => exact rfl); (case n29q => first | kernel_rfl | decide +kernel | rfl); (case s29q => k_is); (case p29q => k_is); (case t29q => k_is); (case h29q => k_is); k_whole); intro h'29q es'29q n'29q F'29q N'29q ee'29q; (try dsimp only at N'29q); (try simp only [List.cons_append, List.nil_append] at ee'29q); (try k_sweep)))
 k_with "s call type:set" => ((k_here; (with_reducible show wpAny _ _ (call (Value.type "set") [Value.ref _]) _ _ _); k_dflt (refine' Mine.set_tup_N ?F30q ?N30q ?h30q ?m30q ?i30q ?r30q ?l30q ?_; (case F30q => k_asm); (case N30q => k_asm); (case h30q => rfl); (case m30q => k_mem); (case i30q => assumption); (case r30q => assumption); (case l30q => first | assumption | exact Nat.le_of_ble_eq_true rfl | omega)); intro S'30q h'30q tk'30q sf'30q n'30q F'30q N'30q hO'30q hS'30q))
 k_with "s call type:tuple" => ((k_here; (with_reducible show wpAny _ _ (call (Value.type "tuple") [Value.ref _]) _ _ _); k_dflt (first | (refine' Mine.tup_set_1 ?F31q ?N31q ?h31q ?s31q ?o31q ?n31q ?d31q ?_; (case F31q => k_asm); (case N31q => k_asm); (case h31q => rfl); (case s31q => assumption); (case o31q => assumption); (case n31q => assumption); (case d31q => assumption); intro c'31q h'31q tk'31q u'31q F'31q N'31q lt'31q; (try k_lt lt'31q)) | (refine' Mine.tup_set_2 ?F31q ?N31q ?h31q ?s31q ?o31q ?l31q ?d31q ?_; (case F31q => k_asm); (case N31q => k_asm); (case h31q => rfl); (case s31q => assumption); (case o31q => assumption); (case l31q => first | assumption | exact Nat.le_of_ble_eq_true rfl | omega); (case d31q => assumption); intro c'31q h'31q tk'31q vs'31q ds'31q F'31q N'31q lt'31q hi'31q hl1'31q hl2'31q; (try k_lt lt'31q)))))
 k_with "s compareOp In ref ref" => ((k_here; k_dflt (first | (refine' Mine.in_816_no ?N32q ?a32q ?p32q ?q32q ?x ?i32q ?u32q ?l32q ?_; (case N32q => k_asm); (case a32q => k_mem); (case p32q => k_mem); (case q32q => k_mem); (case x => k_mem); (case i32q => assumption); (case u32q => ke_room); (case l32q => assumption)) | (refine' Mine.in_816 ?N32q ?a32q ?p32q ?q32q ?x ?i32q ?u32q ?_; (case N32q => k_asm); (case a32q => k_mem); (case p32q => k_mem); (case q32q => k_mem); (case x => k_mem); (case i32q => exact IntsAre.cons _ _ IntsAre.nil); (case u32q => ke_room); intro b'32q hb'32q))))
 k_with "s call builtin:max" => ((k_here; (with_reducible show wpAny _ _ (call (Value.builtin _) [Value.ref _]) _ _ _); k_dflt (refine' Mine.max_tup_N ?F33q ?N33q ?h33q ?m33q ?i33q ?n33q ?_; (case F33q => k_asm); (case N33q => k_asm); (case h33q => rfl); (case m33q => k_mem); (case i33q => assumption); (case n33q => first | omega | exact Nat.le_of_ble_eq_true rfl)); intro h'33q M'33q t'33q tk'33q F'33q N'33q a'33q b'33q))
 k_with "s subscriptTail" => ((k_here; (with_reducible refine Mine.sub_dec ?_ ?_) <;> intro hP'34q))
 k_with "s eval ListComp" => ((k_here; k_dflt (refine' Mine.lc_tup ?F35q ?N35q ?m35q ?h35q ?z35q ?e35q ?c135q ?c235q ?c335q ?c435q ?c535q ?_; (case F35q => k_asm); (case N35q => k_asm); (case h35q => rfl); (case e35q => intro Q935q h935q; first | (refine' nameX_L ?k135q ?k235q ?k335q ?k435q ?k535q; (case k435q => rfl); (case k535q => rfl); (case k135q => k_asm); (case k235q => first | rfl | walk_at "mine look"); (case k335q => exact h935q); (all_goals first | exact (Str.ofString "") | exact (0 : Nat) | exact Value.none)) | (refine' ld ?k135q ?k235q ?k335q; (case k135q => k_asm); (case k235q => walk_at "mine look"); (case k335q => exact h935q))); (case m35q => unfold Mine.TupAt; k_mem); (case z35q => exact Nat.le_of_ble_eq_true rfl); (case c135q => with_unfolding_all rfl); (case c235q => decide); (case c335q => rfl); (case c435q => decide); (case c535q => rfl)); intro g'35q; lcg_lit))
 k_with "s exec Raise some none" => ((k_here; (with_reducible show wpAny _ _ (exec (Stmt.Raise (some (Expr.Call (Expr.Name _ _) (_ :: _) [] _)) none _) (envOfC _ _ _ _ _)) _ _ _); k_dflt (refine' Mine.Raise_ownE ?F36q ?O36q PySem.F.excBase_Exception ?h36q ?v36q ?_ ?a36q ?b36q; (case F36q => k_asm); (case O36q => exact own_of_in (by k_asm) (by k_asm) (by k_is) (by k_exc)); (case h36q => rfl); (case a36q => rfl); (case b36q => rfl); (case v36q => intro Q936q h936q; (refine' nameX_K ?k136q ?k236q ?k336q ?k436q ?k536q ?k636q ?k736q; (case k136q => k_asm); (case k236q => k_asm); (case k336q => k_asm); (case k636q => rfl); (case k736q => rfl); (case k436q => k_is); (case k536q => exact h936q); (all_goals first | exact (Str.ofString "") | exact (0 : Nat) | exact Value.none))); k_whole)))
 k_with "s mine off" => (first | assumption | exact ⟨by k_ne, by k_ne, by k_ne⟩ | (k_dflt assumption) | (refine And.intro ⟨by k_ne, by k_ne, by k_ne⟩ ?_; walk_at "mine off"))
 k_with "s CompEnd" => ((k_dflt (refine' Mine.compEnd1 ?F38q ?N38q ?off38q ?t38q ?S38q ?_; (case F38q => k_asm); (case N38q => k_asm); (case off38q => walk_at "mine off"); (case t38q => exact ⟨by k_ne, by k_ne, by k_ne⟩); (case S38q => unfold Mine.TupAt; k_mem))))
 k_with "s mine lts" => (first | assumption | exact ktn_ltOf (by assumption) | exact ktn_ltOf (by simp only [*]))
 k_with "s mine fresh" => (first | exact Mine.fresh_nil | (refine Mine.fresh_cons ?_ ?_; walk_at "mine lts"; walk_at "mine fresh"))
 k_with "s mine offr" => (first | assumption | (refine Mine.off_r (P := _) ?_; assumption) | (refine Mine.off_r (P := _) (Mine.off_r (P := _) ?_); assumption))
 k_with "s mine freshL" => (first | exact Mine.freshL_nil | (refine Mine.freshL_cons ?_ ?_; (focus (first | (refine Mine.fresh_lt (ltN ?_); (try dsimp only); first | exact Nat.lt_of_succ_lt (And.left (by assumption)) | exact Nat.lt_of_succ_lt (And.left (And.right (by assumption))) | exact Nat.lt_of_succ_lt (And.left (And.right (And.right (by assumption)))) | exact Nat.lt_of_succ_lt (And.left (And.right (And.right (And.right (by assumption))))) | exact Nat.lt_of_succ_lt (And.left (And.right (And.right (And.right (And.right (by assumption)))))) | omega) | (refine Mine.fresh_off ?_; first | assumption | exact (And.right (by assumption)) | exact (And.right (And.right (by assumption))) | exact (And.right (And.right (And.right (by assumption)))) | exact (And.right (And.right (And.right (And.right (by assumption))))) | exact (And.right (And.right (And.right (And.right (And.right (by assumption))))))) | fail "freshL")); walk_at "mine freshL"))
 k_with "s mine find" => (first | exact Mine.find_hit | exact Mine.find_miss (by decide) (by walk_at "mine find"))
 k_with "s getAttr ref" => ((k_here; k_dflt (refine' Mine.get_field ?F44q ?X44q ?N44q ?x ?d44q ?e44q ?f44q ?g44q ?h44q ?a44q ?n44q ?v44q ?_; (case F44q => k_asm); (case X44q => k_asm); (case N44q => k_asm); (case x => k_mem); (case d44q => k_mem); (case e44q => assumption); (case f44q => walk_at "mine find"); (case g44q => k_is); (case h44q => k_is); (case a44q => k_is); (case n44q => k_is); (case v44q => k_handed); k_whole)))
 trivial
local macro_rules | `(tactic| walk_at $s:str) => Mine.hand "s " s
local macro_rules | `(tactic| k_mem) => `(tactic| assumption)
local macro_rules | `(tactic| k_all) => `(tactic| first | assumption | exact Mine.ne_of_allLt (by assumption))
local macro_rules | `(tactic| lcg_src) => `(tactic| (unfold Mine.TupAt; k_mem))
section
theorem Mine.law_at {w : World} {p : Program} {loose : List Str} {mean : ExcName → Option Value} {mg mb : Str → Option Value}
 {dp un : Nat} {nm : Str} {fa : Addr} {cd : Value} {l : List Env} {h₀ : Heap} {L : Addr} {m : Str → Option Value} {news frs : Mine.Led} {s : Shared} {Q E : Value → Shared → Prop}
 {ls : Addr} {its : List Value} {zs : List Int} {k o : Int} {t1 t2 : Tok} (H : Mine.Here w h₀ L s.heap m news frs l p loose mean mg mb (Mine.fnScope 34) dp un 10)
 (hl : h₀.IsList ls its.toArray) (hi : IntsAre its zs) (hsz : its.toArray.size ≤ 63) (hsy : its.length ≤ 63) (hsx : zs.length ≤ 63) (hk0 : 0 ≤ k) (hk1 : k ≤ 20) (hret : ∀ z u h' tk', Fr h₀ L h' m → News h₀ L h' news → Q (.int z u) { s with heap := h', toks := tk' }) :
 wpAny (model rw_ar0036_02.row.prog w) ((Mine.Fa dp un (some []) l).deeper (envOfC nm (Mine.fnScope 34) L fa cd)) (call (.ref 416) [.ref ls, .int k t1, .int o t2]) Q E s := by
 obtain ⟨F, X, N, T, Fs, sub, hk, hdp, hun⟩ := H
 walk_at "mine lit"
 w_on
 w_strict (
  revert X
  k_fill
  intro X
  (refine wpAny_call ?_)
  with_unfolding_all refine' Mine.enterF (name := "_law_at") (qual := "_law_at") (body := Mine.fnStmts 31) (scope := Mine.fnScope 31) (binds := [("script", Value.ref ls), ("k", Value.int k t1), ("other", Value.int o t2)]) F X N T Fs sub ?kA ?kf ?kke ?k6 ?k7 ?k8 ?k9 ?kB ?_ ?c2 ?c3 ?c4 ?c5
  case kA => exact rfl
  case kf => exact rfl
  case kke => exact hk
  case k6 => k_is
  case k7 => k_is
  case k8 => first | ktr_room | k_room
  case k9 => first | exact BindsTo.of_eq rfl
  case kB => exact locs rfl
  case c2 => exact rfl
  case c3 => exact rfl
  case c4 => exact rfl
  case c5 => decide +kernel
  k_whole
  intro oL' L' h' C' Fs' sub' lt' up' ne' F' N'
  (try dsimp only)
  (try k_lt lt')
  (repeat (conv in Mine.fnStmts _ => whnf))
  walk_at "mine lit"
  k_steps)
 
 all_goals first | exact (Str.ofString "") | exact (0 : Nat) | exact Value.none | skip
 all_goals first | (exact hret _ _ _ _ (by assumption) (by assumption)) | (exfalso; simp_all; done) | (fail "left")
end
section
variable {w : World} {p : Program} {loose : List Str} {mean : ExcName → Option Value} {mg mb : Str → Option Value}
variable {dp un : Nat} {nm : Str} {fa : Addr} {cd : Value} {l : List Env} {h₀ : Heap} {L : Addr} {m : Str → Option Value} {news frs : Mine.Led} {s : Shared} {Q : Flow → Shared → Prop} {R : Result → Shared → Prop}
theorem Mine.k1 : True := by
 k_with "s call ref" => ((k_here; (with_reducible show wpAny _ _ (call (Value.ref 416) _) _ _ _); k_dflt (refine' Mine.law_at ?H ?l ?i ?z ?y ?x ?k0 ?k1 ?_; (case H => walk_at "mine here"); (case l => assumption); (case i => assumption); (case z => assumption); (case y => assumption); (case x => assumption); (case k0 => decide); (case k1 => decide)); intro z' u' h' tk' F' N'; (try k_sweep)))
 trivial
local macro_rules | `(tactic| walk_at $s:str) => Mine.hand "i24 " s
local macro_rules | `(tactic| walk_at "p") => Mine.pad
theorem Mine.k2 : True := by
 k_with "i24 binaryOp Pow int int" => ((k_here; (with_reducible show wpAny _ _ (binaryOp _ _ (Value.int 32 _)) _ _ _); k_dflt (refine' Mine.pow32 ?hB ?_; (case hB => assumption))))
 k_with "i24 binaryOp Pow int int" => ((k_here; (with_reducible show wpAny _ _ (binaryOp _ _ (Value.int 31 _)) _ _ _); k_dflt (refine' Mine.pow31 ?hB ?_; (case hB => assumption))))
 trivial
theorem Mine.law_s0
 {ls : Addr} {its : List Value} {zs : List Int}  (H : Mine.Here w h₀ L s.heap m news frs l p loose mean mg mb (Mine.fnScope 34) dp un 40)
 (hl : h₀.IsList ls its.toArray) (hi : IntsAre its zs) (hsz : its.toArray.size ≤ 63) (hsy : its.length ≤ 63) (hsx : zs.length ≤ 63) (v0 : m "script" = some (.ref ls)) (hret : ∀ v t h' tk', 0 ≤ v → v < 5 → Fr h₀ L h' (fun y => if y = "mode" then some (.int v t) else m y) → News h₀ L h' news → Q .next { s with heap := h', toks := tk' }) :
 wpAny (model rw_ar0036_02.row.prog w) ((Mine.Fa dp un (some []) l).deeper (envOfC nm (Mine.fnScope 34) L fa cd)) (exec (Mine.fnAt 34 0) (envOfC nm (Mine.fnScope 34) L fa cd)) Q (Mine.Out w ((Mine.Fa dp un (some []) l).deeper (envOfC nm (Mine.fnScope 34) L fa cd)) (envOfC nm (Mine.fnScope 34) L fa cd) R) s := by
 obtain ⟨F, X, N, T, Fs, sub, hk, hdp, hun⟩ := H
 (conv => arg 3; arg 1; whnf)
 walk_at "mine lit"
 w_on
 w_strict (
  revert X
  k_fill
  intro X
  
  k_steps)
 all_goals first | exact (Str.ofString "") | exact (0 : Nat) | exact Value.none | skip
 all_goals (refine' hret _ _ _ _ ?y0 ?y1 ?F ?N; (case F => assumption); (case N => assumption); (case y0 => exact (Mine.fmB (by decide)).1); (case y1 => exact (Mine.fmB (by decide)).2))
theorem Mine.law_s3
 {ls : Addr} {its : List Value} {zs : List Int}  (H : Mine.Here w h₀ L s.heap m news frs l p loose mean mg mb (Mine.fnScope 34) dp un 40)
 (hl : h₀.IsList ls its.toArray) (hi : IntsAre its zs) (hsz : its.toArray.size ≤ 63) (hsy : its.length ≤ 63) (hsx : zs.length ≤ 63) (v0 : m "script" = some (.ref ls)) (hret : ∀ v t h' tk', 0 ≤ v → v < 3 → Fr h₀ L h' (fun y => if y = "said" then some (.int v t) else m y) → News h₀ L h' news → Q .next { s with heap := h', toks := tk' }) :
 wpAny (model rw_ar0036_02.row.prog w) ((Mine.Fa dp un (some []) l).deeper (envOfC nm (Mine.fnScope 34) L fa cd)) (exec (Mine.fnAt 34 3) (envOfC nm (Mine.fnScope 34) L fa cd)) Q (Mine.Out w ((Mine.Fa dp un (some []) l).deeper (envOfC nm (Mine.fnScope 34) L fa cd)) (envOfC nm (Mine.fnScope 34) L fa cd) R) s := by
 obtain ⟨F, X, N, T, Fs, sub, hk, hdp, hun⟩ := H
 (conv => arg 3; arg 1; whnf)
 walk_at "mine lit"
 w_on
 w_strict (
  revert X
  k_fill
  intro X
  
  k_steps)
 all_goals first | exact (Str.ofString "") | exact (0 : Nat) | exact Value.none | skip
 all_goals (refine' hret _ _ _ _ ?y0 ?y1 ?F ?N; (case F => assumption); (case N => assumption); (case y0 => exact (Mine.fmB (by decide)).1); (case y1 => exact (Mine.fmB (by decide)).2))
theorem Mine.law_s7
 {ls : Addr} {its : List Value} {zs : List Int}  (H : Mine.Here w h₀ L s.heap m news frs l p loose mean mg mb (Mine.fnScope 34) dp un 40)
 (hl : h₀.IsList ls its.toArray) (hi : IntsAre its zs) (hsz : its.toArray.size ≤ 63) (hsy : its.length ≤ 63) (hsx : zs.length ≤ 63) (v0 : m "script" = some (.ref ls)) (hret : ∀ v t h' tk', 0 ≤ v → v < 9 → Fr h₀ L h' (fun y => if y = "form" then some (.int v t) else m y) → News h₀ L h' news → Q .next { s with heap := h', toks := tk' }) :
 wpAny (model rw_ar0036_02.row.prog w) ((Mine.Fa dp un (some []) l).deeper (envOfC nm (Mine.fnScope 34) L fa cd)) (exec (Mine.fnAt 34 7) (envOfC nm (Mine.fnScope 34) L fa cd)) Q (Mine.Out w ((Mine.Fa dp un (some []) l).deeper (envOfC nm (Mine.fnScope 34) L fa cd)) (envOfC nm (Mine.fnScope 34) L fa cd) R) s := by
 obtain ⟨F, X, N, T, Fs, sub, hk, hdp, hun⟩ := H
 (conv => arg 3; arg 1; whnf)
 walk_at "mine lit"
 w_on
 w_strict (
  revert X
  k_fill
  intro X
  
  k_steps)
 all_goals first | exact (Str.ofString "") | exact (0 : Nat) | exact Value.none | skip
 all_goals (refine' hret _ _ _ _ ?y0 ?y1 ?F ?N; (case F => assumption); (case N => assumption); (case y0 => exact (Mine.fmB (by decide)).1); (case y1 => exact (Mine.fmB (by decide)).2))
theorem Mine.law_s12
 {ls : Addr} {its : List Value} {zs : List Int}  (H : Mine.Here w h₀ L s.heap m news frs l p loose mean mg mb (Mine.fnScope 34) dp un 40)
 (hl : h₀.IsList ls its.toArray) (hi : IntsAre its zs) (hsz : its.toArray.size ≤ 63) (hsy : its.length ≤ 63) (hsx : zs.length ≤ 63) (v0 : m "script" = some (.ref ls)) (hret : ∀ v t h' tk', 0 ≤ v → v < 6 → Fr h₀ L h' (fun y => if y = "clear" then some (.int v t) else m y) → News h₀ L h' news → Q .next { s with heap := h', toks := tk' }) :
 wpAny (model rw_ar0036_02.row.prog w) ((Mine.Fa dp un (some []) l).deeper (envOfC nm (Mine.fnScope 34) L fa cd)) (exec (Mine.fnAt 34 12) (envOfC nm (Mine.fnScope 34) L fa cd)) Q (Mine.Out w ((Mine.Fa dp un (some []) l).deeper (envOfC nm (Mine.fnScope 34) L fa cd)) (envOfC nm (Mine.fnScope 34) L fa cd) R) s := by
 obtain ⟨F, X, N, T, Fs, sub, hk, hdp, hun⟩ := H
 (conv => arg 3; arg 1; whnf)
 walk_at "mine lit"
 w_on
 w_strict (
  revert X
  k_fill
  intro X
  
  k_steps)
 all_goals first | exact (Str.ofString "") | exact (0 : Nat) | exact Value.none | skip
 all_goals (refine' hret _ _ _ _ ?y0 ?y1 ?F ?N; (case F => assumption); (case N => assumption); (case y0 => exact (Mine.fmB (by decide)).1); (case y1 => exact (Mine.fmB (by decide)).2))
theorem Mine.law_s14
 {ls : Addr} {its : List Value} {zs : List Int}  (H : Mine.Here w h₀ L s.heap m news frs l p loose mean mg mb (Mine.fnScope 34) dp un 40)
 (hl : h₀.IsList ls its.toArray) (hi : IntsAre its zs) (hsz : its.toArray.size ≤ 63) (hsy : its.length ≤ 63) (hsx : zs.length ≤ 63) (v0 : m "script" = some (.ref ls)) (hret : ∀ v t h' tk', 0 ≤ v → v < 3 → Fr h₀ L h' (fun y => if y = "lace" then some (.int v t) else m y) → News h₀ L h' news → Q .next { s with heap := h', toks := tk' }) :
 wpAny (model rw_ar0036_02.row.prog w) ((Mine.Fa dp un (some []) l).deeper (envOfC nm (Mine.fnScope 34) L fa cd)) (exec (Mine.fnAt 34 14) (envOfC nm (Mine.fnScope 34) L fa cd)) Q (Mine.Out w ((Mine.Fa dp un (some []) l).deeper (envOfC nm (Mine.fnScope 34) L fa cd)) (envOfC nm (Mine.fnScope 34) L fa cd) R) s := by
 obtain ⟨F, X, N, T, Fs, sub, hk, hdp, hun⟩ := H
 (conv => arg 3; arg 1; whnf)
 walk_at "mine lit"
 w_on
 w_strict (
  revert X
  k_fill
  intro X
  
  k_steps)
 all_goals first | exact (Str.ofString "") | exact (0 : Nat) | exact Value.none | skip
 all_goals (refine' hret _ _ _ _ ?y0 ?y1 ?F ?N; (case F => assumption); (case N => assumption); (case y0 => exact (Mine.fmB (by decide)).1); (case y1 => exact (Mine.fmB (by decide)).2))
theorem Mine.law_s6
 {ls : Addr} {its : List Value} {zs : List Int}  (H : Mine.Here w h₀ L s.heap m news frs l p loose mean mg mb (Mine.fnScope 34) dp un 40)
 (hl : h₀.IsList ls its.toArray) (hi : IntsAre its zs) (hsz : its.toArray.size ≤ 63) (hsy : its.length ≤ 63) (hsx : zs.length ≤ 63) (v0 : m "script" = some (.ref ls)) (hret : ∀ v t h' tk', 0 ≤ v → v < 70000 → Fr h₀ L h' (fun y => if y = "number" then some (.int v t) else m y) → News h₀ L h' news → Q .next { s with heap := h', toks := tk' }) :
 wpAny (model rw_ar0036_02.row.prog w) ((Mine.Fa dp un (some []) l).deeper (envOfC nm (Mine.fnScope 34) L fa cd)) (exec (Mine.fnAt 34 6) (envOfC nm (Mine.fnScope 34) L fa cd)) Q (Mine.Out w ((Mine.Fa dp un (some []) l).deeper (envOfC nm (Mine.fnScope 34) L fa cd)) (envOfC nm (Mine.fnScope 34) L fa cd) R) s := by
 obtain ⟨F, X, N, T, Fs, sub, hk, hdp, hun⟩ := H
 (conv => arg 3; arg 1; whnf)
 walk_at "mine lit"
 w_on
 w_strict (
  revert X
  k_fill
  intro X
  
  k_steps)
 all_goals first | exact (Str.ofString "") | exact (0 : Nat) | exact Value.none | skip
 all_goals (refine' hret _ _ _ _ ?y0 ?y1 ?F ?N; (case F => assumption); (case N => assumption); (case y0 => exact (Mine.fmB (by decide)).1); (case y1 => exact (Mine.fmB (by decide)).2))
theorem Mine.law_s1
 {ls : Addr} {its : List Value} {zs : List Int} {B : Int}  (H : Mine.Here w h₀ L s.heap m news frs l p loose mean mg mb (Mine.fnScope 34) dp un 40)
 (hl : h₀.IsList ls its.toArray) (hi : IntsAre its zs) (hsz : its.toArray.size ≤ 63) (hsy : its.length ≤ 63) (hsx : zs.length ≤ 63) (v0 : m "script" = some (.ref ls)) (hB : B = 4294967296) (hret : ∀ v t h' tk', -3 ≤ v → v ≤ 4294967292 → Fr h₀ L h' (fun y => if y = "wide" then some (.int v t) else m y) → News h₀ L h' news → Q .next { s with heap := h', toks := tk' }) :
 wpAny (model rw_ar0036_02.row.prog w) ((Mine.Fa dp un (some []) l).deeper (envOfC nm (Mine.fnScope 34) L fa cd)) (exec (Mine.fnAt 34 1) (envOfC nm (Mine.fnScope 34) L fa cd)) Q (Mine.Out w ((Mine.Fa dp un (some []) l).deeper (envOfC nm (Mine.fnScope 34) L fa cd)) (envOfC nm (Mine.fnScope 34) L fa cd) R) s := by
 obtain ⟨F, X, N, T, Fs, sub, hk, hdp, hun⟩ := H
 (conv => arg 3; arg 1; whnf)
 walk_at "mine lit"
 w_on
 w_strict (
  revert X
  k_fill
  intro X
  
  k_steps)
 all_goals first | exact (Str.ofString "") | exact (0 : Nat) | exact Value.none | skip
 all_goals (refine' hret _ _ _ _ ?y0 ?y1 ?F ?N; (case F => assumption); (case N => assumption); (case y0 => exact Mine.wide_lo hB); (case y1 => exact Mine.wide_hi hB))
theorem Mine.law_s2
 {ls : Addr} {its : List Value} {zs : List Int} {B : Int}  (H : Mine.Here w h₀ L s.heap m news frs l p loose mean mg mb (Mine.fnScope 34) dp un 40)
 (hl : h₀.IsList ls its.toArray) (hi : IntsAre its zs) (hsz : its.toArray.size ≤ 63) (hsy : its.length ≤ 63) (hsx : zs.length ≤ 63) (v0 : m "script" = some (.ref ls)) (hB : B = 4294967296) (hret : ∀ v t h' tk', -3 ≤ v → v ≤ 4294967292 → Fr h₀ L h' (fun y => if y = "high" then some (.int v t) else m y) → News h₀ L h' news → Q .next { s with heap := h', toks := tk' }) :
 wpAny (model rw_ar0036_02.row.prog w) ((Mine.Fa dp un (some []) l).deeper (envOfC nm (Mine.fnScope 34) L fa cd)) (exec (Mine.fnAt 34 2) (envOfC nm (Mine.fnScope 34) L fa cd)) Q (Mine.Out w ((Mine.Fa dp un (some []) l).deeper (envOfC nm (Mine.fnScope 34) L fa cd)) (envOfC nm (Mine.fnScope 34) L fa cd) R) s := by
 obtain ⟨F, X, N, T, Fs, sub, hk, hdp, hun⟩ := H
 (conv => arg 3; arg 1; whnf)
 walk_at "mine lit"
 w_on
 w_strict (
  revert X
  k_fill
  intro X
  
  k_steps)
 all_goals first | exact (Str.ofString "") | exact (0 : Nat) | exact Value.none | skip
 all_goals (refine' hret _ _ _ _ ?y0 ?y1 ?F ?N; (case F => assumption); (case N => assumption); (case y0 => exact Mine.wide_lo hB); (case y1 => exact Mine.wide_hi hB))
theorem Mine.law_s4
 {ls : Addr} {its : List Value} {zs : List Int}  (H : Mine.Here w h₀ L s.heap m news frs l p loose mean mg mb (Mine.fnScope 34) dp un 40)
 (hl : h₀.IsList ls its.toArray) (hi : IntsAre its zs) (hsz : its.toArray.size ≤ 63) (hsy : its.length ≤ 63) (hsx : zs.length ≤ 63) (v0 : m "script" = some (.ref ls)) (hret : ∀ b h' tk', Fr h₀ L h' (fun y => if y = "alpha" then some (.bool b) else m y) → News h₀ L h' news → Q .next { s with heap := h', toks := tk' }) :
 wpAny (model rw_ar0036_02.row.prog w) ((Mine.Fa dp un (some []) l).deeper (envOfC nm (Mine.fnScope 34) L fa cd)) (exec (Mine.fnAt 34 4) (envOfC nm (Mine.fnScope 34) L fa cd)) Q (Mine.Out w ((Mine.Fa dp un (some []) l).deeper (envOfC nm (Mine.fnScope 34) L fa cd)) (envOfC nm (Mine.fnScope 34) L fa cd) R) s := by
 obtain ⟨F, X, N, T, Fs, sub, hk, hdp, hun⟩ := H
 (conv => arg 3; arg 1; whnf)
 walk_at "mine lit"
 w_on
 w_strict (
  revert X
  k_fill
  intro X
  
  k_steps)
 all_goals first | exact (Str.ofString "") | exact (0 : Nat) | exact Value.none | skip
 all_goals (refine' hret _ _ _  ?F ?N; (case F => assumption); (case N => assumption))
theorem Mine.law_s8
 {sd fm : Int} {t1 t2 : Tok} (H : Mine.Here w h₀ L s.heap m news frs l p loose mean mg mb (Mine.fnScope 34) dp un 40)
 (v1 : m "said" = some (.int sd t1)) (v2 : m "form" = some (.int fm t2)) (hret : ∀ b h' tk', (b = true ↔ sd = 1 ∨ (sd = 0 ∧ fm < 2)) → Fr h₀ L h' (fun y => if y = "grey" then some (.bool b) else m y) → News h₀ L h' news → Q .next { s with heap := h', toks := tk' }) :
 wpAny (model rw_ar0036_02.row.prog w) ((Mine.Fa dp un (some []) l).deeper (envOfC nm (Mine.fnScope 34) L fa cd)) (exec (Mine.fnAt 34 8) (envOfC nm (Mine.fnScope 34) L fa cd)) Q (Mine.Out w ((Mine.Fa dp un (some []) l).deeper (envOfC nm (Mine.fnScope 34) L fa cd)) (envOfC nm (Mine.fnScope 34) L fa cd) R) s := by
 obtain ⟨F, X, N, T, Fs, sub, hk, hdp, hun⟩ := H
 (conv => arg 3; arg 1; whnf)
 walk_at "mine lit"
 w_on
 w_strict (
  revert X
  k_fill
  intro X
  
  k_steps)
 all_goals first | exact (Str.ofString "") | exact (0 : Nat) | exact Value.none | skip
 all_goals (refine' hret _ _ _ ?y0 ?F ?N; (case F => assumption); (case N => assumption); (case y0 => first | omega | (simp_all; done) | (simp_all; omega)))
theorem Mine.law_s9tt
 {fm : Int} {t1 : Tok} (H : Mine.Here w h₀ L s.heap m news frs l p loose mean mg mb (Mine.fnScope 34) dp un 40)
 (v1 : m "form" = some (.int fm t1)) (v2 : m "grey" = some (.bool true)) (v3 : m "alpha" = some (.bool true)) (hret : ∀ v t h' tk', (v = if 1 < fm then 1 else (if true then 1 else 3) + (if true then 1 else 0)) → Fr h₀ L h' (fun y => if y = "planes" then some (.int v t) else m y) → News h₀ L h' news → Q .next { s with heap := h', toks := tk' }) :
 wpAny (model rw_ar0036_02.row.prog w) ((Mine.Fa dp un (some []) l).deeper (envOfC nm (Mine.fnScope 34) L fa cd)) (exec (Mine.fnAt 34 9) (envOfC nm (Mine.fnScope 34) L fa cd)) Q (Mine.Out w ((Mine.Fa dp un (some []) l).deeper (envOfC nm (Mine.fnScope 34) L fa cd)) (envOfC nm (Mine.fnScope 34) L fa cd) R) s := by
 obtain ⟨F, X, N, T, Fs, sub, hk, hdp, hun⟩ := H
 (conv => arg 3; arg 1; whnf)
 walk_at "mine lit"
 w_on
 w_strict (
  revert X
  k_fill
  intro X
  
  k_steps)
 all_goals first | exact (Str.ofString "") | exact (0 : Nat) | exact Value.none | skip
 all_goals (refine' hret _ _ _ _ ?y0 ?F ?N; (case F => assumption); (case N => assumption); (case y0 => first | rw [if_pos (by assumption)] | (rw [if_neg (by assumption)]; rfl)))
theorem Mine.law_s9tf
 {fm : Int} {t1 : Tok} (H : Mine.Here w h₀ L s.heap m news frs l p loose mean mg mb (Mine.fnScope 34) dp un 40)
 (v1 : m "form" = some (.int fm t1)) (v2 : m "grey" = some (.bool true)) (v3 : m "alpha" = some (.bool false)) (hret : ∀ v t h' tk', (v = if 1 < fm then 1 else (if true then 1 else 3) + (if false then 1 else 0)) → Fr h₀ L h' (fun y => if y = "planes" then some (.int v t) else m y) → News h₀ L h' news → Q .next { s with heap := h', toks := tk' }) :
 wpAny (model rw_ar0036_02.row.prog w) ((Mine.Fa dp un (some []) l).deeper (envOfC nm (Mine.fnScope 34) L fa cd)) (exec (Mine.fnAt 34 9) (envOfC nm (Mine.fnScope 34) L fa cd)) Q (Mine.Out w ((Mine.Fa dp un (some []) l).deeper (envOfC nm (Mine.fnScope 34) L fa cd)) (envOfC nm (Mine.fnScope 34) L fa cd) R) s := by
 obtain ⟨F, X, N, T, Fs, sub, hk, hdp, hun⟩ := H
 (conv => arg 3; arg 1; whnf)
 walk_at "mine lit"
 w_on
 w_strict (
  revert X
  k_fill
  intro X
  
  k_steps)
 all_goals first | exact (Str.ofString "") | exact (0 : Nat) | exact Value.none | skip
 all_goals (refine' hret _ _ _ _ ?y0 ?F ?N; (case F => assumption); (case N => assumption); (case y0 => first | rw [if_pos (by assumption)] | (rw [if_neg (by assumption)]; rfl)))
theorem Mine.law_s9ft
 {fm : Int} {t1 : Tok} (H : Mine.Here w h₀ L s.heap m news frs l p loose mean mg mb (Mine.fnScope 34) dp un 40)
 (v1 : m "form" = some (.int fm t1)) (v2 : m "grey" = some (.bool false)) (v3 : m "alpha" = some (.bool true)) (hret : ∀ v t h' tk', (v = if 1 < fm then 1 else (if false then 1 else 3) + (if true then 1 else 0)) → Fr h₀ L h' (fun y => if y = "planes" then some (.int v t) else m y) → News h₀ L h' news → Q .next { s with heap := h', toks := tk' }) :
 wpAny (model rw_ar0036_02.row.prog w) ((Mine.Fa dp un (some []) l).deeper (envOfC nm (Mine.fnScope 34) L fa cd)) (exec (Mine.fnAt 34 9) (envOfC nm (Mine.fnScope 34) L fa cd)) Q (Mine.Out w ((Mine.Fa dp un (some []) l).deeper (envOfC nm (Mine.fnScope 34) L fa cd)) (envOfC nm (Mine.fnScope 34) L fa cd) R) s := by
 obtain ⟨F, X, N, T, Fs, sub, hk, hdp, hun⟩ := H
 (conv => arg 3; arg 1; whnf)
 walk_at "mine lit"
 w_on
 w_strict (
  revert X
  k_fill
  intro X
  
  k_steps)
 all_goals first | exact (Str.ofString "") | exact (0 : Nat) | exact Value.none | skip
 all_goals (refine' hret _ _ _ _ ?y0 ?F ?N; (case F => assumption); (case N => assumption); (case y0 => first | rw [if_pos (by assumption)] | (rw [if_neg (by assumption)]; rfl)))
theorem Mine.law_s9ff
 {fm : Int} {t1 : Tok} (H : Mine.Here w h₀ L s.heap m news frs l p loose mean mg mb (Mine.fnScope 34) dp un 40)
 (v1 : m "form" = some (.int fm t1)) (v2 : m "grey" = some (.bool false)) (v3 : m "alpha" = some (.bool false)) (hret : ∀ v t h' tk', (v = if 1 < fm then 1 else (if false then 1 else 3) + (if false then 1 else 0)) → Fr h₀ L h' (fun y => if y = "planes" then some (.int v t) else m y) → News h₀ L h' news → Q .next { s with heap := h', toks := tk' }) :
 wpAny (model rw_ar0036_02.row.prog w) ((Mine.Fa dp un (some []) l).deeper (envOfC nm (Mine.fnScope 34) L fa cd)) (exec (Mine.fnAt 34 9) (envOfC nm (Mine.fnScope 34) L fa cd)) Q (Mine.Out w ((Mine.Fa dp un (some []) l).deeper (envOfC nm (Mine.fnScope 34) L fa cd)) (envOfC nm (Mine.fnScope 34) L fa cd) R) s := by
 obtain ⟨F, X, N, T, Fs, sub, hk, hdp, hun⟩ := H
 (conv => arg 3; arg 1; whnf)
 walk_at "mine lit"
 w_on
 w_strict (
  revert X
  k_fill
  intro X
  
  k_steps)
 all_goals first | exact (Str.ofString "") | exact (0 : Nat) | exact Value.none | skip
 all_goals (refine' hret _ _ _ _ ?y0 ?F ?N; (case F => assumption); (case N => assumption); (case y0 => first | rw [if_pos (by assumption)] | (rw [if_neg (by assumption)]; rfl)))
theorem Mine.law_s13n
 {ls : Addr} {its : List Value} {zs : List Int}  (H : Mine.Here w h₀ L s.heap m news frs l p loose mean mg mb (Mine.fnScope 34) dp un 40)
 (hl : h₀.IsList ls its.toArray) (hi : IntsAre its zs) (hsz : its.toArray.size ≤ 63) (hsy : its.length ≤ 63) (hsx : zs.length ≤ 63) (v0 : m "script" = some (.ref ls)) (v1 : m "palette" = some .none) (hret : ∀ v t h' tk', 0 ≤ v → v < 6 → Fr h₀ L h' (fun y => if y = "ground" then some (.int v t) else m y) → News h₀ L h' news → Q .next { s with heap := h', toks := tk' }) :
 wpAny (model rw_ar0036_02.row.prog w) ((Mine.Fa dp un (some []) l).deeper (envOfC nm (Mine.fnScope 34) L fa cd)) (exec (Mine.fnAt 34 13) (envOfC nm (Mine.fnScope 34) L fa cd)) Q (Mine.Out w ((Mine.Fa dp un (some []) l).deeper (envOfC nm (Mine.fnScope 34) L fa cd)) (envOfC nm (Mine.fnScope 34) L fa cd) R) s := by
 obtain ⟨F, X, N, T, Fs, sub, hk, hdp, hun⟩ := H
 (conv => arg 3; arg 1; whnf)
 walk_at "mine lit"
 w_on
 w_strict (
  revert X
  k_fill
  intro X
  
  k_steps)
 all_goals first | exact (Str.ofString "") | exact (0 : Nat) | exact Value.none | skip
 all_goals (refine' hret _ _ _ _ ?y0 ?y1 ?F ?N; (case F => assumption); (case N => assumption); (case y0 => exact (Mine.fmB (by decide)).1); (case y1 => exact (Mine.fmB (by decide)).2))
theorem Mine.law_s13l
 {ls : Addr} {its : List Value} {zs : List Int} {lp : Addr} (H : Mine.Here w h₀ L s.heap m news frs l p loose mean mg mb (Mine.fnScope 34) dp un 40)
 (hl : h₀.IsList ls its.toArray) (hi : IntsAre its zs) (hsz : its.toArray.size ≤ 63) (hsy : its.length ≤ 63) (hsx : zs.length ≤ 63) (v0 : m "script" = some (.ref ls)) (v1 : m "palette" = some (.ref lp)) (hret : ∀ t h' tk', Fr h₀ L h' (fun y => if y = "ground" then some (.int 0 t) else m y) → News h₀ L h' news → Q .next { s with heap := h', toks := tk' }) :
 wpAny (model rw_ar0036_02.row.prog w) ((Mine.Fa dp un (some []) l).deeper (envOfC nm (Mine.fnScope 34) L fa cd)) (exec (Mine.fnAt 34 13) (envOfC nm (Mine.fnScope 34) L fa cd)) Q (Mine.Out w ((Mine.Fa dp un (some []) l).deeper (envOfC nm (Mine.fnScope 34) L fa cd)) (envOfC nm (Mine.fnScope 34) L fa cd) R) s := by
 obtain ⟨F, X, N, T, Fs, sub, hk, hdp, hun⟩ := H
 (conv => arg 3; arg 1; whnf)
 walk_at "mine lit"
 w_on
 w_strict (
  revert X
  k_fill
  intro X
  
  k_steps)
 all_goals first | exact (Str.ofString "") | exact (0 : Nat) | exact Value.none | skip
 all_goals (refine' hret _ _ _  ?F ?N; (case F => assumption); (case N => assumption))
end
section
variable {w : World} {p : Program} {loose : List Str} {mean : ExcName → Option Value} {mg mb : Str → Option Value}
variable {dp un : Nat} {nm : Str} {fa : Addr} {cd : Value} {l : List Env} {h₀ : Heap} {L : Addr} {m : Str → Option Value} {news frs : Mine.Led} {s : Shared} {Q : Flow → Shared → Prop} {R : Result → Shared → Prop}
theorem Mine.k3 : True := by
 k_with "s mine all ne" => ((repeat (first | assumption | (refine List.forall_mem_cons.mpr ⟨by k_ne, ?_⟩))))
 trivial
local macro_rules | `(tactic| walk_at $s:str) => Mine.hand "i25 " s
theorem Mine.k4 : True := by
 k_with "i25 binaryOp Pow int int" => ((k_here; (with_reducible show wpAny _ _ (binaryOp _ _ (Value.int 32 _)) _ _ _); k_dflt (refine' Mine.pow32 ?hB ?_; (case hB => assumption))))
 k_with "i25 binaryOp Pow int int" => ((k_here; (with_reducible show wpAny _ _ (binaryOp _ _ (Value.int 31 _)) _ _ _); k_dflt (refine' Mine.pow31 ?hB ?_; (case hB => assumption))))
 k_with "i25 binaryOp Mult ref int" => ((k_here; (with_reducible show wpAny _ _ (binaryOp Operator.Mult (Value.ref _) (Value.int _ _)) _ _ _); k_dflt (refine' Mine.mul_one ?Fm46q ?N46q ?y646q ?y746q ?y846q ?_; (case Fm46q => k_asm); (case N46q => k_asm); (case y646q => k_mem); (case y746q => first | omega | decide); (case y846q => first | omega | decide); k_whole); intro D'46q h'46q F'46q N'46q l146q; (try k_lt l146q); (try k_sweep)))
 trivial
theorem Mine.law_s5
 {ls : Addr} {its : List Value} {zs : List Int} {oc : Obj} {v0 : Option Value}  (H : Mine.Here w h₀ L s.heap m ((L + 1, oc) :: news) frs l p loose mean mg mb (Mine.fnScope 34) dp un 40)
 (hl : h₀.IsList ls its.toArray) (hi : IntsAre its zs) (hsz : its.toArray.size ≤ 63) (hsy : its.length ≤ 63) (hsx : zs.length ≤ 63) (vs : m "script" = some (.ref ls)) (hoc : oc.data = .cell v0) (hnx : ∀ p ∈ news, p.1 ≠ L + 1) (hret : ∀ oc2 v t h' tk', oc2.data = .cell (some (.int v t)) → Fr h₀ L h' m → News h₀ L h' ((L + 1, oc2) :: news) → Q .next { s with heap := h', toks := tk' }) :
 wpAny (model rw_ar0036_02.row.prog w) ((Mine.Fa dp un (some []) l).deeper (envOfC nm (Mine.fnScope 34) L fa cd)) (exec (Mine.fnAt 34 5) (envOfC nm (Mine.fnScope 34) L fa cd)) Q (Mine.Out w ((Mine.Fa dp un (some []) l).deeper (envOfC nm (Mine.fnScope 34) L fa cd)) (envOfC nm (Mine.fnScope 34) L fa cd) R) s := by
 obtain ⟨F, X, N, T, Fs, sub, hk, hdp, hun⟩ := H
 (conv => arg 3; arg 1; whnf)
 walk_at "mine lit"
 w_on
 w_strict (
  revert X
  k_fill
  intro X
  
  k_steps)
 all_goals first | exact (Str.ofString "") | exact (0 : Nat) | exact Value.none | skip
 all_goals exact hret _ _ _ _ _ (by assumption) (by assumption) (by assumption)
theorem Mine.law_s10
 {pl dv : Int} {t1 t2 : Tok} {oc oc2 : Obj} {v0 : Option Value}  (H : Mine.Here w h₀ L s.heap m ((L + 1, oc) :: (L + 1 + 1, oc2) :: news) frs l p loose mean mg mb (Mine.fnScope 34) dp un 40)
 (hoc : oc.data = .cell (some (.int dv t2))) (hoc2 : oc2.data = .cell v0) (hnx : ∀ p ∈ news, p.1 ≠ L + 1) (hnx2 : ∀ p ∈ news, p.1 ≠ L + 1 + 1) (v1 : m "planes" = some (.int pl t1)) (hp1 : 1 ≤ pl) (hp4 : pl ≤ 4) (hret : ∀ D its oc3 k h' tk' nw, (∀ p ∈ news, p ∈ nw) → (L + 1, oc) ∈ nw → (D, W.listOf its.toArray k) ∈ nw → IntsAre its (Mine.depOf dv pl) → (∀ p ∈ nw, p.1 ≠ L + 1 + 1) → oc3.data = .cell (some (.ref D)) → Fr h₀ L h' m → News h₀ L h' ((L + 1 + 1, oc3) :: nw) → Q .next { s with heap := h', toks := tk' }) :
 wpAny (model rw_ar0036_02.row.prog w) ((Mine.Fa dp un (some []) l).deeper (envOfC nm (Mine.fnScope 34) L fa cd)) (exec (Mine.fnAt 34 10) (envOfC nm (Mine.fnScope 34) L fa cd)) Q (Mine.Out w ((Mine.Fa dp un (some []) l).deeper (envOfC nm (Mine.fnScope 34) L fa cd)) (envOfC nm (Mine.fnScope 34) L fa cd) R) s := by
 obtain ⟨F, X, N, T, Fs, sub, hk, hdp, hun⟩ := H
 (conv => arg 3; arg 1; whnf)
 walk_at "mine lit"
 w_on
 w_strict (
  revert X
  k_fill
  intro X
  
  k_steps)
 all_goals first | exact (Str.ofString "") | exact (0 : Nat) | exact Value.none | skip
 all_goals first | (refine' hret _ _ _ _ _ _ (_ :: (L + 1, oc) :: news) ?y1 ?y2 ?y3 ?y4 ?y5 ?y6 ?F ?N; (case F => assumption); (case y6 => assumption); (case N => exact Mine.news_third (by assumption)); (case y3 => exact .head _); (case y4 => first | exact Mine.depA (by assumption) (by assumption) | exact Mine.depB (by assumption)); (case y2 => exact .tail _ (.head _)); (case y1 => exact fun p hp => .tail _ (.tail _ hp)); (case y5 => walk_at "mine all ne")) | (refine' hret _ _ _ _ _ _ (_ :: _ :: (L + 1, oc) :: news) ?y1 ?y2 ?y3 ?y4 ?y5 ?y6 ?F ?N; (case F => assumption); (case y6 => assumption); (case N => exact Mine.news_fourth (by assumption)); (case y3 => exact .head _); (case y4 => first | exact Mine.depA (by assumption) (by assumption) | exact Mine.depB (by assumption)); (case y2 => exact .tail _ (.tail _ (.head _))); (case y1 => exact fun p hp => .tail _ (.tail _ (.tail _ hp))); (case y5 => walk_at "mine all ne"))
end
section
theorem Mine.isnat_con {w : World} {p : Program} {loose : List Str} {mean : ExcName → Option Value} {mg mb : Str → Option Value}
 {dp un : Nat} {gd : Option (List Code)} {cn : Str} {cs : Scope} {a : Addr} {ccd : Value} {cl : List (Str × Addr)} {l : List Env} {h₀ : Heap} {L : Addr} {m : Str → Option Value} {news frs : Mine.Led} {s : Shared} {Q E : Value → Shared → Prop}
 {x : Int} {t1 : Tok} (H : Mine.Here w h₀ L s.heap m news frs l p loose mean mg mb cs dp un 3)
 (hret : ∀ b h' tk', b = decide (0 ≤ x) → Fr h₀ L h' m → News h₀ L h' news → Q (.bool b) { s with heap := h', toks := tk' }) :
 wpAny (model rw_ar0036_02.row.prog w) (ktrTop dp un gd cn cs L a ccd cl l) (call (.ref 409) [.int x t1]) Q E s := by
 obtain ⟨F, X, N, T, Fs, sub, hk, hdp, hun⟩ := H
 w_on
 w_strict (
  revert X
  k_fill
  intro X
  k_steps)
 all_goals (
  refine hret _ _ _ ?_ (by assumption) (by assumption)
  first | rfl | (exfalso; simp_all; done) | (simp_all; done))
end
section
variable {w : World} {p : Program} {loose : List Str} {mean : ExcName → Option Value} {mg mb : Str → Option Value}
variable {dp un : Nat} {nm : Str} {fa : Addr} {cd : Value} {l : List Env} {h₀ : Heap} {L : Addr} {m : Str → Option Value} {news frs : Mine.Led} {s : Shared} {Q : Flow → Shared → Prop} {R : Result → Shared → Prop}
theorem Mine.cbr_s0n
  (H : Mine.Here w h₀ L s.heap m news frs l p loose mean mg mb (Mine.fnScope 28) dp un 6)
 (v1 : m "palette" = some .none) (hret : ∀ h' tk', Fr h₀ L h' m → News h₀ L h' news → Q .next { s with heap := h', toks := tk' }) :
 wpAny (model rw_ar0036_02.row.prog w) ((Mine.Fa dp un (some []) l).deeper (envOfC nm (Mine.fnScope 28) L fa cd)) (exec (Mine.fnAt 28 0) (envOfC nm (Mine.fnScope 28) L fa cd)) Q (Mine.Out w ((Mine.Fa dp un (some []) l).deeper (envOfC nm (Mine.fnScope 28) L fa cd)) (envOfC nm (Mine.fnScope 28) L fa cd) R) s := by
 obtain ⟨F, X, N, T, Fs, sub, hk, hdp, hun⟩ := H
 (conv => arg 3; arg 1; whnf)
 walk_at "mine lit"
 w_on
 w_strict (
  revert X
  k_fill
  intro X
  
  k_steps)
 all_goals first | exact (Str.ofString "") | exact (0 : Nat) | exact Value.none | skip
 all_goals first | (exact hret _ _ (by assumption) (cb_drop (by assumption) (by walk_at "mine sub2"))) | (exfalso; simp_all; done)
theorem Mine.cbr_s1n
 {al gr : Bool} (H : Mine.Here w h₀ L s.heap m news frs l p loose mean mg mb (Mine.fnScope 28) dp un 6)
 (v1 : m "greyscale" = some (.bool gr)) (v2 : m "alpha" = some (.bool al)) (hga : gr = true → al = true) (hret : ∀ h' tk', Fr h₀ L h' m → News h₀ L h' news → Q .next { s with heap := h', toks := tk' }) :
 wpAny (model rw_ar0036_02.row.prog w) ((Mine.Fa dp un (some []) l).deeper (envOfC nm (Mine.fnScope 28) L fa cd)) (exec (Mine.fnAt 28 1) (envOfC nm (Mine.fnScope 28) L fa cd)) Q (Mine.Out w ((Mine.Fa dp un (some []) l).deeper (envOfC nm (Mine.fnScope 28) L fa cd)) (envOfC nm (Mine.fnScope 28) L fa cd) R) s := by
 obtain ⟨F, X, N, T, Fs, sub, hk, hdp, hun⟩ := H
 (conv => arg 3; arg 1; whnf)
 walk_at "mine lit"
 w_on
 w_strict (
  revert X
  k_fill
  intro X
  
  k_steps)
 all_goals first | exact (Str.ofString "") | exact (0 : Nat) | exact Value.none | skip
 all_goals first | (exact hret _ _ (by assumption) (cb_drop (by assumption) (by walk_at "mine sub2"))) | (exfalso; simp_all; done)
theorem Mine.cbr_s2
 {al gr : Bool} (H : Mine.Here w h₀ L s.heap m news frs l p loose mean mg mb (Mine.fnScope 28) dp un 6)
 (v1 : m "greyscale" = some (.bool gr)) (v2 : m "alpha" = some (.bool al)) (hga : gr = true → al = true) (hret : ∀ h' tk', Fr h₀ L h' m → News h₀ L h' news → Q .next { s with heap := h', toks := tk' }) :
 wpAny (model rw_ar0036_02.row.prog w) ((Mine.Fa dp un (some []) l).deeper (envOfC nm (Mine.fnScope 28) L fa cd)) (exec (Mine.fnAt 28 2) (envOfC nm (Mine.fnScope 28) L fa cd)) Q (Mine.Out w ((Mine.Fa dp un (some []) l).deeper (envOfC nm (Mine.fnScope 28) L fa cd)) (envOfC nm (Mine.fnScope 28) L fa cd) R) s := by
 obtain ⟨F, X, N, T, Fs, sub, hk, hdp, hun⟩ := H
 (conv => arg 3; arg 1; whnf)
 walk_at "mine lit"
 w_on
 w_strict (
  revert X
  k_fill
  intro X
  
  k_steps)
 all_goals first | exact (Str.ofString "") | exact (0 : Nat) | exact Value.none | skip
 all_goals first | (exact hret _ _ (by assumption) (cb_drop (by assumption) (by walk_at "mine sub2"))) | (exfalso; simp_all; done)
theorem Mine.cbr_s3a
 {c : Addr} {vs : List Value} {qs : List Int} {q0 : Int} (H : Mine.Here w h₀ L s.heap m news frs l p loose mean mg mb (Mine.fnScope 28) dp un 6)
 (hm : (c, ({ cls := .type "tuple", data := .seq vs.toArray } : Obj)) ∈ news) (v3 : m "bitdepth" = some (.ref c)) (hi : IntsAre vs qs) (hr : ∀ q ∈ qs, 1 ≤ q ∧ q ≤ 16) (hlen : vs.length ≤ 4) (hlen2 : qs.length ≤ 4) (hne0 : qs ≠ []) (hall : ∀ q ∈ qs, q = q0) (hret : ∀ c2 u h' tk', (∀ p ∈ news, p.1 < c2) → Fr h₀ L h' (fun y => if y = "depth_set" then some (.ref c2) else m y) → News h₀ L h' ((c2, ({ cls := .type "tuple", data := .seq [Value.int q0 u].toArray } : Obj)) :: news) → Q .next { s with heap := h', toks := tk' }) :
 wpAny (model rw_ar0036_02.row.prog w) ((Mine.Fa dp un (some []) l).deeper (envOfC nm (Mine.fnScope 28) L fa cd)) (exec (Mine.fnAt 28 3) (envOfC nm (Mine.fnScope 28) L fa cd)) Q (Mine.Out w ((Mine.Fa dp un (some []) l).deeper (envOfC nm (Mine.fnScope 28) L fa cd)) (envOfC nm (Mine.fnScope 28) L fa cd) R) s := by
 obtain ⟨F, X, N, T, Fs, sub, hk, hdp, hun⟩ := H
 (conv => arg 3; arg 1; whnf)
 walk_at "mine lit"
 w_on
 w_strict (
  revert X
  k_fill
  intro X
  
  k_steps)
 all_goals first | exact (Str.ofString "") | exact (0 : Nat) | exact Value.none | skip
 all_goals first | (exact hret _ _ _ _ (by assumption) (by assumption) (by assumption))
theorem Mine.cbr_s3b
 {c : Addr} {vs : List Value} {qs : List Int} {q0 : Int} (H : Mine.Here w h₀ L s.heap m news frs l p loose mean mg mb (Mine.fnScope 28) dp un 6)
 (hm : (c, ({ cls := .type "tuple", data := .seq vs.toArray } : Obj)) ∈ news) (v3 : m "bitdepth" = some (.ref c)) (hi : IntsAre vs qs) (hr : ∀ q ∈ qs, 1 ≤ q ∧ q ≤ 16) (hlen : vs.length ≤ 4) (hlen2 : qs.length ≤ 4) (hdif : ∃ a ∈ qs, ∃ b ∈ qs, a ≠ b) (hret : ∀ c2 vs2 ds2 h' tk', (∀ p ∈ news, p.1 < c2) → IntsAre vs2 ds2 → 2 ≤ ds2.length → Fr h₀ L h' (fun y => if y = "depth_set" then some (.ref c2) else m y) → News h₀ L h' ((c2, ({ cls := .type "tuple", data := .seq vs2.toArray } : Obj)) :: news) → Q .next { s with heap := h', toks := tk' }) :
 wpAny (model rw_ar0036_02.row.prog w) ((Mine.Fa dp un (some []) l).deeper (envOfC nm (Mine.fnScope 28) L fa cd)) (exec (Mine.fnAt 28 3) (envOfC nm (Mine.fnScope 28) L fa cd)) Q (Mine.Out w ((Mine.Fa dp un (some []) l).deeper (envOfC nm (Mine.fnScope 28) L fa cd)) (envOfC nm (Mine.fnScope 28) L fa cd) R) s := by
 obtain ⟨F, X, N, T, Fs, sub, hk, hdp, hun⟩ := H
 (conv => arg 3; arg 1; whnf)
 walk_at "mine lit"
 w_on
 w_strict (
  revert X
  k_fill
  intro X
  
  k_steps)
 all_goals first | exact (Str.ofString "") | exact (0 : Nat) | exact Value.none | skip
 all_goals first | (exact hret _ _ _ _ _ (by assumption) (by assumption) (by assumption) (by assumption) (by assumption))
end
section
variable {w : World} {p : Program} {loose : List Str} {mean : ExcName → Option Value} {mg mb : Str → Option Value}
variable {dp un : Nat} {nm : Str} {fa : Addr} {cd : Value} {l : List Env} {h₀ : Heap} {L : Addr} {m : Str → Option Value} {news frs : Mine.Led} {s : Shared} {Q : Flow → Shared → Prop} {R : Result → Shared → Prop}
theorem Mine.cbr_s4a
 {c2 : Addr} {q : Int} {t : Tok} (H : Mine.Here w h₀ L s.heap m news frs l p loose mean mg mb (Mine.fnScope 28) dp un 6)
 (hdd : (c2, ({ cls := .type "tuple", data := .seq [Value.int q t].toArray } : Obj)) ∈ news) (v1 : m "depth_set" = some (.ref c2))(hnext : ∀ h' tk' news', ¬ (q = 8 ∨ q = 16) → (∀ p ∈ news, p ∈ news') → (∀ p ∈ news', p ∈ news ∨ ∀ r ∈ news, r.1 < p.1) → Fr h₀ L h' m → News h₀ L h' news' → Q .next { s with heap := h', toks := tk' }) (hret : ∀ rt u m' h' tk' news', (q = 8 ∨ q = 16) → (rt, ({ cls := .type "tuple", data := .seq [Value.int q u, Value.none].toArray } : Obj)) ∈ news' → (∀ p ∈ news, p ∈ news') → (∀ p ∈ news', p ∈ news ∨ ∀ r ∈ news, r.1 < p.1) → Fr h₀ L h' m' → News h₀ L h' news' → Q (.ret (.ref rt)) { s with heap := h', toks := tk' }) :
 wpAny (model rw_ar0036_02.row.prog w) ((Mine.Fa dp un (some []) l).deeper (envOfC nm (Mine.fnScope 28) L fa cd)) (exec (Mine.fnAt 28 4) (envOfC nm (Mine.fnScope 28) L fa cd)) Q (Mine.Out w ((Mine.Fa dp un (some []) l).deeper (envOfC nm (Mine.fnScope 28) L fa cd)) (envOfC nm (Mine.fnScope 28) L fa cd) R) s := by
 obtain ⟨F, X, N, T, Fs, sub, hk, hdp, hun⟩ := H
 (conv => arg 3; arg 1; whnf)
 walk_at "mine lit"
 w_on
 w_strict (
  revert X
  k_fill
  intro X
  
  k_steps)
 all_goals first | exact (Str.ofString "") | exact (0 : Nat) | exact Value.none | skip
 all_goals first | ((try dsimp only); refine' hret _ _ _ _ _ _ ?g ?a ?b ?c ?d ?e; (case d => assumption); (case e => assumption); (case a => k_mem); (case b => walk_at "mine sub2"); (case c => walk_at "mine fresh"); (case g => first | assumption | omega | (simp_all; done) | (simp_all; omega))) | ((try dsimp only); refine' hnext _ _ _ ?g ?b ?c ?d ?e; (case d => assumption); (case e => assumption); (case b => walk_at "mine sub2"); (case c => walk_at "mine fresh"); (case g => first | assumption | omega | (simp_all; done) | (simp_all; omega)))
theorem Mine.cbr_s4b
 {c2 : Addr} {vs : List Value} {ds : List Int} (H : Mine.Here w h₀ L s.heap m news frs l p loose mean mg mb (Mine.fnScope 28) dp un 6)
 (hdd : (c2, ({ cls := .type "tuple", data := .seq vs.toArray } : Obj)) ∈ news) (v1 : m "depth_set" = some (.ref c2)) (hi : IntsAre vs ds) (h2 : 2 ≤ ds.length) (hnext : ∀ h' tk' news',  (∀ p ∈ news, p ∈ news') → (∀ p ∈ news', p ∈ news ∨ ∀ r ∈ news, r.1 < p.1) → Fr h₀ L h' m → News h₀ L h' news' → Q .next { s with heap := h', toks := tk' }) :
 wpAny (model rw_ar0036_02.row.prog w) ((Mine.Fa dp un (some []) l).deeper (envOfC nm (Mine.fnScope 28) L fa cd)) (exec (Mine.fnAt 28 4) (envOfC nm (Mine.fnScope 28) L fa cd)) Q (Mine.Out w ((Mine.Fa dp un (some []) l).deeper (envOfC nm (Mine.fnScope 28) L fa cd)) (envOfC nm (Mine.fnScope 28) L fa cd) R) s := by
 obtain ⟨F, X, N, T, Fs, sub, hk, hdp, hun⟩ := H
 (conv => arg 3; arg 1; whnf)
 walk_at "mine lit"
 w_on
 w_strict (
  revert X
  k_fill
  intro X
  
  k_steps)
 all_goals first | exact (Str.ofString "") | exact (0 : Nat) | exact Value.none | skip
 all_goals first | ((try dsimp only); refine' hnext _ _ _ ?b ?c ?d ?e; (case d => assumption); (case e => assumption); (case b => walk_at "mine sub2"); (case c => walk_at "mine fresh"))
theorem Mine.cbr_s0pn
 {lp c : Addr} {ps : List Value} {n : Nat} {q : Int} {t : Tok} {al gr : Bool}  (H : Mine.Here w h₀ L s.heap m news frs l p loose mean mg mb (Mine.fnScope 28) dp un 6)
 (hlp : (lp, listOf ps.toArray n) ∈ news) (hps : ps ≠ []) (hpl : ps.length ≤ 300) (v1 : m "palette" = some (.ref lp)) (hm : (c, ({ cls := .type "tuple", data := .seq [Value.int q t].toArray } : Obj)) ∈ news) (v2 : m "bitdepth" = some (.ref c)) (v3 : m "transparent" = some .none) (v4 : m "alpha" = some (.bool al)) (v5 : m "greyscale" = some (.bool gr)) (hret : ∀ rt u m' h' tk' news', (q = 1 ∨ q = 2 ∨ q = 4 ∨ q = 8) ∧ al = false ∧ gr = false → (rt, ({ cls := .type "tuple", data := .seq [Value.int q u, Value.none].toArray } : Obj)) ∈ news' → (∀ p ∈ news, p ∈ news') → (∀ p ∈ news', p ∈ news ∨ ∀ r ∈ news, r.1 < p.1) → Fr h₀ L h' m' → News h₀ L h' news' → Q (.ret (.ref rt)) { s with heap := h', toks := tk' }) (hraise : ∀ e a0 h' tk', ¬ ((q = 1 ∨ q = 2 ∨ q = 4 ∨ q = 8) ∧ al = false ∧ gr = false) → Heap.FlyingW h₀ l e (.ref 224) a0 h' → Mine.Up frs h' → R (.error (.ref e)) { s with heap := h', toks := tk' }) :
 wpAny (model rw_ar0036_02.row.prog w) ((Mine.Fa dp un (some []) l).deeper (envOfC nm (Mine.fnScope 28) L fa cd)) (exec (Mine.fnAt 28 0) (envOfC nm (Mine.fnScope 28) L fa cd)) Q (Mine.Out w ((Mine.Fa dp un (some []) l).deeper (envOfC nm (Mine.fnScope 28) L fa cd)) (envOfC nm (Mine.fnScope 28) L fa cd) R) s := by
 obtain ⟨F, X, N, T, Fs, sub, hk, hdp, hun⟩ := H
 (conv => arg 3; arg 1; whnf)
 walk_at "mine lit"
 w_on
 w_strict (
  revert X
  k_fill
  intro X
  
  k_steps)
 all_goals first | exact (Str.ofString "") | exact (0 : Nat) | exact Value.none | skip
 all_goals first | ((try dsimp only); refine' hret _ _ _ _ _ _ ?g ?a ?b ?c ?d ?e; (case d => assumption); (case e => assumption); (case a => k_mem); (case b => walk_at "mine sub2"); (case c => walk_at "mine fresh"); (case g => first | assumption | omega | (simp_all; done) | (simp_all; omega))) | (refine' hraise _ _ _ _ ?g ?a ?b; (case a => assumption); (case b => assumption); (case g => first | assumption | omega | (simp_all; done) | (simp_all; omega)))
theorem Mine.cbr_s0pr
 {lp c : Addr} {ps : List Value} {n : Nat} {q : Int} {t : Tok} {al gr : Bool} {ta : Addr} (H : Mine.Here w h₀ L s.heap m news frs l p loose mean mg mb (Mine.fnScope 28) dp un 6)
 (hlp : (lp, listOf ps.toArray n) ∈ news) (hps : ps ≠ []) (hpl : ps.length ≤ 300) (v1 : m "palette" = some (.ref lp)) (hm : (c, ({ cls := .type "tuple", data := .seq [Value.int q t].toArray } : Obj)) ∈ news) (v2 : m "bitdepth" = some (.ref c)) (v3 : m "transparent" = some (.ref ta)) (v4 : m "alpha" = some (.bool al)) (v5 : m "greyscale" = some (.bool gr)) (hraise : ∀ e a0 h' tk', True → Heap.FlyingW h₀ l e (.ref 224) a0 h' → Mine.Up frs h' → R (.error (.ref e)) { s with heap := h', toks := tk' }) :
 wpAny (model rw_ar0036_02.row.prog w) ((Mine.Fa dp un (some []) l).deeper (envOfC nm (Mine.fnScope 28) L fa cd)) (exec (Mine.fnAt 28 0) (envOfC nm (Mine.fnScope 28) L fa cd)) Q (Mine.Out w ((Mine.Fa dp un (some []) l).deeper (envOfC nm (Mine.fnScope 28) L fa cd)) (envOfC nm (Mine.fnScope 28) L fa cd) R) s := by
 obtain ⟨F, X, N, T, Fs, sub, hk, hdp, hun⟩ := H
 (conv => arg 3; arg 1; whnf)
 walk_at "mine lit"
 w_on
 w_strict (
  revert X
  k_fill
  intro X
  
  k_steps)
 all_goals first | exact (Str.ofString "") | exact (0 : Nat) | exact Value.none | skip
 all_goals first | (refine' hraise _ _ _ _ ?g ?a ?b; (case a => assumption); (case b => assumption); (case g => first | assumption | omega | (simp_all; done) | (simp_all; omega)))
theorem Mine.cbr_s0pi
 {lp c : Addr} {ps : List Value} {n : Nat} {q : Int} {t : Tok} {al gr : Bool} {tn : Int} {tt : Tok} (H : Mine.Here w h₀ L s.heap m news frs l p loose mean mg mb (Mine.fnScope 28) dp un 6)
 (hlp : (lp, listOf ps.toArray n) ∈ news) (hps : ps ≠ []) (hpl : ps.length ≤ 300) (v1 : m "palette" = some (.ref lp)) (hm : (c, ({ cls := .type "tuple", data := .seq [Value.int q t].toArray } : Obj)) ∈ news) (v2 : m "bitdepth" = some (.ref c)) (v3 : m "transparent" = some (.int tn tt)) (v4 : m "alpha" = some (.bool al)) (v5 : m "greyscale" = some (.bool gr)) (hraise : ∀ e a0 h' tk', True → Heap.FlyingW h₀ l e (.ref 224) a0 h' → Mine.Up frs h' → R (.error (.ref e)) { s with heap := h', toks := tk' }) :
 wpAny (model rw_ar0036_02.row.prog w) ((Mine.Fa dp un (some []) l).deeper (envOfC nm (Mine.fnScope 28) L fa cd)) (exec (Mine.fnAt 28 0) (envOfC nm (Mine.fnScope 28) L fa cd)) Q (Mine.Out w ((Mine.Fa dp un (some []) l).deeper (envOfC nm (Mine.fnScope 28) L fa cd)) (envOfC nm (Mine.fnScope 28) L fa cd) R) s := by
 obtain ⟨F, X, N, T, Fs, sub, hk, hdp, hun⟩ := H
 (conv => arg 3; arg 1; whnf)
 walk_at "mine lit"
 w_on
 w_strict (
  revert X
  k_fill
  intro X
  
  k_steps)
 all_goals first | exact (Str.ofString "") | exact (0 : Nat) | exact Value.none | skip
 all_goals first | (refine' hraise _ _ _ _ ?g ?a ?b; (case a => assumption); (case b => assumption); (case g => first | assumption | omega | (simp_all; done) | (simp_all; omega)))
end
section
variable {w : World} {p : Program} {loose : List Str} {mean : ExcName → Option Value} {mg mb : Str → Option Value}
variable {dp un : Nat} {nm : Str} {fa : Addr} {cd : Value} {l : List Env} {h₀ : Heap} {L : Addr} {m : Str → Option Value} {news frs : Mine.Led} {s : Shared} {Q : Flow → Shared → Prop} {R : Result → Shared → Prop}
theorem Mine.cbr_s1g
 {oc : Obj} {v0 : Option Value} {c : Addr} {q : Int} {t : Tok} (H : Mine.Here w h₀ L s.heap m ((L + 1, oc) :: news) frs l p loose mean mg mb (Mine.fnScope 28) dp un 8)
 (hoc : oc.data = .cell v0) (hnx : ∀ p ∈ news, p.1 ≠ L + 1) (v1 : m "greyscale" = some (.bool true)) (v2 : m "alpha" = some (.bool false)) (hm : (c, ({ cls := .type "tuple", data := .seq [Value.int q t].toArray } : Obj)) ∈ news) (v3 : m "bitdepth" = some (.ref c)) (hq : 1 ≤ q ∧ q ≤ 16) (hret1 : ∀ rt u m' h' tk' news', (q = 1 ∨ q = 2 ∨ q = 4 ∨ q = 8 ∨ q = 16) → (rt, ({ cls := .type "tuple", data := .seq [Value.int q u, Value.none].toArray } : Obj)) ∈ news' → (∀ p ∈ news, p ∈ news') → (∀ p ∈ news', p ∈ news ∨ Mine.FreshAt L news p) → Fr h₀ L h' m' → News h₀ L h' news' → Q (.ret (.ref rt)) { s with heap := h', toks := tk' }) (hret2 : ∀ rt u rl tg m' h' tk' news', (¬ (q = 1 ∨ q = 2 ∨ q = 4 ∨ q = 8 ∨ q = 16) ∧ tg = (if 8 < q then 16 else if q = 3 then 4 else 8)) → (rt, ({ cls := .type "tuple", data := .seq [Value.int tg u, .ref rl].toArray } : Obj)) ∈ news' → DatIn news' (.ref rl) (Dat.list [Dat.tuple [Dat.int q, Dat.int tg]]) → (∀ p ∈ news, p ∈ news') → (∀ p ∈ news', p ∈ news ∨ Mine.FreshAt L news p) → Fr h₀ L h' m' → News h₀ L h' news' → Q (.ret (.ref rt)) { s with heap := h', toks := tk' }) :
 wpAny (model rw_ar0036_02.row.prog w) ((Mine.Fa dp un (some []) l).deeper (envOfC nm (Mine.fnScope 28) L fa cd)) (exec (Mine.fnAt 28 1) (envOfC nm (Mine.fnScope 28) L fa cd)) Q (Mine.Out w ((Mine.Fa dp un (some []) l).deeper (envOfC nm (Mine.fnScope 28) L fa cd)) (envOfC nm (Mine.fnScope 28) L fa cd) R) s := by
 obtain ⟨F, X, N, T, Fs, sub, hk, hdp, hun⟩ := H
 (conv => arg 3; arg 1; whnf)
 walk_at "mine lit"
 w_on
 w_strict (
  revert X
  k_fill
  intro X
  
  k_steps)
 all_goals first | exact (Str.ofString "") | exact (0 : Nat) | exact Value.none | skip
 all_goals first | ((try dsimp only); refine' hret1 _ _ _ _ _ _ ?g ?a ?b ?c ?d ?e; (case d => assumption); (case e => assumption); (case a => k_mem); (case b => walk_at "mine sub2"); (case c => walk_at "mine freshL"); (case g => first | assumption | omega | (simp_all; done) | (simp_all; omega))) | ((try dsimp only); refine' hret2 _ _ _ _ _ _ _ _ ?g ?a ?z ?b ?c ?d ?e; (case d => assumption); (case e => assumption); (case a => k_mem); (case z => kqd_in); (case b => walk_at "mine sub2"); (case c => walk_at "mine freshL"); (case g => first | assumption | omega | (simp_all; done) | (simp_all; omega))) | (exfalso; simp_all; done) | (exfalso; simp_all; omega)
theorem Mine.cbr_s5
 {oc : Obj} {v0 : Option Value} {c : Addr} {vs : List Value} {qs : List Int} (H : Mine.Here w h₀ L s.heap m ((L + 1, oc) :: news) frs l p loose mean mg mb (Mine.fnScope 28) dp un 8)
 (hoc : oc.data = .cell v0) (hnx : ∀ p ∈ news, p.1 ≠ L + 1) (hm : (c, ({ cls := .type "tuple", data := .seq vs.toArray } : Obj)) ∈ news) (v3 : m "bitdepth" = some (.ref c)) (hi : IntsAre vs qs) (hv0 : 0 < vs.length) (hnext : ∀ oc2 tg u M h' tk' news', M ∈ qs → (∀ a ∈ qs, a ≤ M) → tg = (if 8 < M then 16 else 8) → oc2.data = .cell (some (.int tg u)) → (∀ p ∈ news, p ∈ news') → (∀ p ∈ news', p ∈ news ∨ Mine.FreshAt (L + 1) news p) → (∀ p ∈ news', p.1 ≠ L + 1) → Fr h₀ L h' m → News h₀ L h' ((L + 1, oc2) :: news') → Q .next { s with heap := h', toks := tk' }) :
 wpAny (model rw_ar0036_02.row.prog w) ((Mine.Fa dp un (some []) l).deeper (envOfC nm (Mine.fnScope 28) L fa cd)) (exec (Mine.fnAt 28 5) (envOfC nm (Mine.fnScope 28) L fa cd)) Q (Mine.Out w ((Mine.Fa dp un (some []) l).deeper (envOfC nm (Mine.fnScope 28) L fa cd)) (envOfC nm (Mine.fnScope 28) L fa cd) R) s := by
 obtain ⟨F, X, N, T, Fs, sub, hk, hdp, hun⟩ := H
 (conv => arg 3; arg 1; whnf)
 walk_at "mine lit"
 w_on
 w_strict (
  revert X
  k_fill
  intro X
  
  k_steps)
 all_goals first | exact (Str.ofString "") | exact (0 : Nat) | exact Value.none | skip
 all_goals (refine' hnext _ _ _ _ _ _ (_ :: news) ?a ?b ?c ?d ?e ?f ?j ?g ?i; (case d => assumption); (case g => assumption); (case i => exact Mine.news_swap (by assumption)); (case a => assumption); (case b => assumption); (case c => first | rw [if_pos (by assumption)] | rw [if_neg (by assumption)]); (case e => walk_at "mine sub2"); (case f => walk_at "mine freshL"); (case j => exact List.forall_mem_cons.mpr ⟨by k_ne, hnx⟩))
end
section
variable {w : World} {p : Program} {loose : List Str} {mean : ExcName → Option Value} {mg mb : Str → Option Value}
variable {dp un : Nat} {nm : Str} {fa : Addr} {cd : Value} {l : List Env} {h₀ : Heap} {L : Addr} {m : Str → Option Value} {news frs : Mine.Led} {s : Shared} {Q : Flow → Shared → Prop} {R : Result → Shared → Prop}
theorem Mine.cbr_s6_2
 {oc : Obj} {tg : Int} {ut : Tok} {c : Addr} {q1 : Int} {uq1 : Tok} {q2 : Int} {uq2 : Tok} (H : Mine.Here w h₀ L s.heap m ((L + 1, oc) :: news) frs l p loose mean mg mb (Mine.fnScope 28) dp un 8)
 (hoc : oc.data = .cell (some (.int tg ut))) (hnx : ∀ p ∈ news, p.1 ≠ L + 1) (hm : (c, ({ cls := .type "tuple", data := .seq [Value.int q1 uq1, Value.int q2 uq2].toArray } : Obj)) ∈ news) (v3 : m "bitdepth" = some (.ref c)) (hret : ∀ rt u rl m' h' tk' news',  (rt, ({ cls := .type "tuple", data := .seq [Value.int tg u, .ref rl].toArray } : Obj)) ∈ news' → DatIn news' (.ref rl) (Dat.list [Dat.tuple [Dat.int q1, Dat.int tg], Dat.tuple [Dat.int q2, Dat.int tg]]) → (∀ p ∈ news, p ∈ news') → (∀ p ∈ news', p ∈ news ∨ Mine.FreshAt L news p) → Fr h₀ L h' m' → News h₀ L h' news' → Q (.ret (.ref rt)) { s with heap := h', toks := tk' }) :
 wpAny (model rw_ar0036_02.row.prog w) ((Mine.Fa dp un (some []) l).deeper (envOfC nm (Mine.fnScope 28) L fa cd)) (exec (Mine.fnAt 28 6) (envOfC nm (Mine.fnScope 28) L fa cd)) Q (Mine.Out w ((Mine.Fa dp un (some []) l).deeper (envOfC nm (Mine.fnScope 28) L fa cd)) (envOfC nm (Mine.fnScope 28) L fa cd) R) s := by
 obtain ⟨F, X, N, T, Fs, sub, hk, hdp, hun⟩ := H
 (conv => arg 3; arg 1; whnf)
 walk_at "mine lit"
 w_on
 w_strict (
  revert X
  k_fill
  intro X
  
  k_steps)
 all_goals first | exact (Str.ofString "") | exact (0 : Nat) | exact Value.none | skip
 all_goals ((try dsimp only); refine' hret _ _ _ _ _ _ _ ?a ?z ?b ?c ?d ?e; (case d => assumption); (case e => assumption); (case a => k_mem); (case z => kqd_in); (case b => walk_at "mine sub2"); (case c => walk_at "mine freshL"))
theorem Mine.cbr_s6_3
 {oc : Obj} {tg : Int} {ut : Tok} {c : Addr} {q1 : Int} {uq1 : Tok} {q2 : Int} {uq2 : Tok} {q3 : Int} {uq3 : Tok} (H : Mine.Here w h₀ L s.heap m ((L + 1, oc) :: news) frs l p loose mean mg mb (Mine.fnScope 28) dp un 8)
 (hoc : oc.data = .cell (some (.int tg ut))) (hnx : ∀ p ∈ news, p.1 ≠ L + 1) (hm : (c, ({ cls := .type "tuple", data := .seq [Value.int q1 uq1, Value.int q2 uq2, Value.int q3 uq3].toArray } : Obj)) ∈ news) (v3 : m "bitdepth" = some (.ref c)) (hret : ∀ rt u rl m' h' tk' news',  (rt, ({ cls := .type "tuple", data := .seq [Value.int tg u, .ref rl].toArray } : Obj)) ∈ news' → DatIn news' (.ref rl) (Dat.list [Dat.tuple [Dat.int q1, Dat.int tg], Dat.tuple [Dat.int q2, Dat.int tg], Dat.tuple [Dat.int q3, Dat.int tg]]) → (∀ p ∈ news, p ∈ news') → (∀ p ∈ news', p ∈ news ∨ Mine.FreshAt L news p) → Fr h₀ L h' m' → News h₀ L h' news' → Q (.ret (.ref rt)) { s with heap := h', toks := tk' }) :
 wpAny (model rw_ar0036_02.row.prog w) ((Mine.Fa dp un (some []) l).deeper (envOfC nm (Mine.fnScope 28) L fa cd)) (exec (Mine.fnAt 28 6) (envOfC nm (Mine.fnScope 28) L fa cd)) Q (Mine.Out w ((Mine.Fa dp un (some []) l).deeper (envOfC nm (Mine.fnScope 28) L fa cd)) (envOfC nm (Mine.fnScope 28) L fa cd) R) s := by
 obtain ⟨F, X, N, T, Fs, sub, hk, hdp, hun⟩ := H
 (conv => arg 3; arg 1; whnf)
 walk_at "mine lit"
 w_on
 w_strict (
  revert X
  k_fill
  intro X
  
  k_steps)
 all_goals first | exact (Str.ofString "") | exact (0 : Nat) | exact Value.none | skip
 all_goals ((try dsimp only); refine' hret _ _ _ _ _ _ _ ?a ?z ?b ?c ?d ?e; (case d => assumption); (case e => assumption); (case a => k_mem); (case z => kqd_in); (case b => walk_at "mine sub2"); (case c => walk_at "mine freshL"))
theorem Mine.cbr_s6_4
 {oc : Obj} {tg : Int} {ut : Tok} {c : Addr} {q1 : Int} {uq1 : Tok} {q2 : Int} {uq2 : Tok} {q3 : Int} {uq3 : Tok} {q4 : Int} {uq4 : Tok} (H : Mine.Here w h₀ L s.heap m ((L + 1, oc) :: news) frs l p loose mean mg mb (Mine.fnScope 28) dp un 8)
 (hoc : oc.data = .cell (some (.int tg ut))) (hnx : ∀ p ∈ news, p.1 ≠ L + 1) (hm : (c, ({ cls := .type "tuple", data := .seq [Value.int q1 uq1, Value.int q2 uq2, Value.int q3 uq3, Value.int q4 uq4].toArray } : Obj)) ∈ news) (v3 : m "bitdepth" = some (.ref c)) (hret : ∀ rt u rl m' h' tk' news',  (rt, ({ cls := .type "tuple", data := .seq [Value.int tg u, .ref rl].toArray } : Obj)) ∈ news' → DatIn news' (.ref rl) (Dat.list [Dat.tuple [Dat.int q1, Dat.int tg], Dat.tuple [Dat.int q2, Dat.int tg], Dat.tuple [Dat.int q3, Dat.int tg], Dat.tuple [Dat.int q4, Dat.int tg]]) → (∀ p ∈ news, p ∈ news') → (∀ p ∈ news', p ∈ news ∨ Mine.FreshAt L news p) → Fr h₀ L h' m' → News h₀ L h' news' → Q (.ret (.ref rt)) { s with heap := h', toks := tk' }) :
 wpAny (model rw_ar0036_02.row.prog w) ((Mine.Fa dp un (some []) l).deeper (envOfC nm (Mine.fnScope 28) L fa cd)) (exec (Mine.fnAt 28 6) (envOfC nm (Mine.fnScope 28) L fa cd)) Q (Mine.Out w ((Mine.Fa dp un (some []) l).deeper (envOfC nm (Mine.fnScope 28) L fa cd)) (envOfC nm (Mine.fnScope 28) L fa cd) R) s := by
 obtain ⟨F, X, N, T, Fs, sub, hk, hdp, hun⟩ := H
 (conv => arg 3; arg 1; whnf)
 walk_at "mine lit"
 w_on
 w_strict (
  revert X
  k_fill
  intro X
  
  k_steps)
 all_goals first | exact (Str.ofString "") | exact (0 : Nat) | exact Value.none | skip
 all_goals ((try dsimp only); refine' hret _ _ _ _ _ _ _ ?a ?z ?b ?c ?d ?e; (case d => assumption); (case e => assumption); (case a => k_mem); (case z => kqd_in); (case b => walk_at "mine sub2"); (case c => walk_at "mine freshL"))
end
section
theorem Mine.cbr_enter {w : World} {p : Program} {loose : List Str} {mean : ExcName → Option Value} {mg mb : Str → Option Value}
 {dp un : Nat} {nm : Str} {cs : Scope} {fa : Addr} {cd : Value} {l : List Env} {h₀ : Heap} {L : Addr} {m : Str → Option Value} {news frs : Mine.Led} {s : Shared} {Q E : Value → Shared → Prop}
 {pal bd tr ga gg : Value} (H : Mine.Here w h₀ L s.heap m news frs l p loose mean mg mb cs dp un 14)
 (body : ∀ oL L' h₁ tk oc m', TI.Caller h₀ L m oL → (∀ p ∈ news, p.1 ≠ L) → (∀ p ∈ (L, oL) :: news, p.1 < L') → oc.data = .cell none →
  m' "palette" = some pal → m' "bitdepth" = some bd → m' "transparent" = some tr → m' "alpha" = some ga → m' "greyscale" = some gg →
  Mine.Here w h₀ L' h₁ m' ((L' + 1, oc) :: (L, oL) :: news) ((L, oL) :: frs) (envOf nm cs L fa cd :: l) p loose mean mg mb (Mine.fnScope 28) (dp + 1) (un + 3) 10 →
  wpAny (model rw_ar0036_02.row.prog w) ((Mine.Fa (dp + 1) (un + 3) (some []) (envOf nm cs L fa cd :: l)).deeper (envOfC "check_bitdepth_rescale" (Mine.fnScope 28) L' 402 (.ref 401))) (execs (Mine.fnStmts 28) (envOfC "check_bitdepth_rescale" (Mine.fnScope 28) L' 402 (.ref 401)))
   (fun fl s' => Mine.LeaveM (Q (match fl with | .ret v => v | _ => .none) s'))
   (Mine.Out w ((Mine.Fa (dp + 1) (un + 3) (some []) (envOf nm cs L fa cd :: l)).deeper (envOfC "check_bitdepth_rescale" (Mine.fnScope 28) L' 402 (.ref 401))) (envOfC "check_bitdepth_rescale" (Mine.fnScope 28) L' 402 (.ref 401)) (fun r s' => match r with | .ok (.ret v) => Q v s' | .ok _ => False | .error e => E e s'))
   { s with heap := h₁, toks := tk }) :
 wpAny (model rw_ar0036_02.row.prog w) ((Mine.Fa dp un (some []) l).deeper (envOf nm cs L fa cd)) (call (.ref 402) [pal, bd, tr, ga, gg]) Q E s := by
 obtain ⟨F, X, N, T, Fs, sub, hk, hdp, hun⟩ := H
 w_on
 w_strict (
  revert X
  k_fill
  intro X
  (refine wpAny_call ?_)
  with_unfolding_all refine' Mine.enterFC (name := "check_bitdepth_rescale") (qual := "check_bitdepth_rescale") (body := Mine.fnStmts 28) (scope := Mine.fnScope 28) (binds := [("palette", pal), ("bitdepth", bd), ("transparent", tr), ("alpha", ga), ("greyscale", gg)]) F X N T Fs sub ?kA ?kf ?kke ?k6 ?k7 ?k8 ?k9 ?kB ?kD ?_ ?c2 ?c3 ?c4
  case kA => exact rfl
  case kf => exact rfl
  case kke => exact hk
  case k6 => k_is
  case k7 => k_is
  case k8 => first | ktr_room | k_room
  case k9 => first | exact BindsTo.of_eq rfl
  case kB => exact rfl
  case kD => decide +kernel
  case c2 => exact rfl
  case c3 => exact rfl
  case c4 => exact rfl)
 intro oL L' h₁ tk cells C' Fs' sub' lt' up' ne' F' N' Y'
 have Y2 : CellsAre (bindC (envOfC "check_bitdepth_rescale" (Mine.fnScope 28) L' 402 (.ref 401)).kindOf [("palette", pal), ("bitdepth", bd), ("transparent", tr), ("alpha", ga), ("greyscale", gg)] fun _ => none) [("targetbitdepth", L' + 1)] cells := Y'
 obtain ⟨oc, rfl, hoc⟩ := CellsAre.one Y2
 refine body oL L' h₁ tk oc _ C' ne' lt' hoc ?_ ?_ ?_ ?_ ?_ ⟨F', X, N', T, Fs', fun p hp => .tail _ (sub' p hp), rfl, by omega, by omega⟩
 all_goals first | rfl | with_unfolding_all rfl | kernel_rfl
end
section
namespace Mine
mutual
theorem datIn_off {news nw : Led} (h : ∀ a o, (a, o) ∈ news → (∃ vs n, o.data = .seq vs n) → (a, o) ∈ nw) : ∀ {v : Value} {d : Dat}, DatIn news v d → DatIn nw v d
  | _, _, .none => .none
  | _, _, .bool b => .bool b
  | _, _, .int i t => .int i t
  | _, _, .str x t => .str x t
  | _, _, .bytes b t => .bytes b t
  | _, _, .tuple hm r => .tuple (h _ _ hm ⟨_, _, rfl⟩) (datAll_off h r)
  | _, _, .list hm r => .list (h _ _ hm ⟨_, _, rfl⟩) (datAll_off h r)
theorem datAll_off {news nw : Led} (h : ∀ a o, (a, o) ∈ news → (∃ vs n, o.data = .seq vs n) → (a, o) ∈ nw) : ∀ {vs : List Value} {ds : List Dat}, DatAll news vs ds → DatAll nw vs ds
  | _, _, .nil => .nil
  | _, _, .cons a r => .cons (datIn_off h a) (datAll_off h r)
end
def CbrPost (qs : List Int) (tg : Int) (rr : Value) (nw : Led) : Prop :=
  ((∀ q ∈ qs, q = tg) ∧ rr = .none) ∨ ((∃ q ∈ qs, q ≠ tg) ∧ ∃ rl, rr = .ref rl ∧ DatIn nw (.ref rl) (Dat.list (qs.map fun q => Dat.tuple [.int q, .int tg])))
theorem CbrPost.off {qs : List Int} {tg : Int} {rr : Value} {news nw : Led} (x : CbrPost qs tg rr news) (h : ∀ a o, (a, o) ∈ news → (∃ vs n, o.data = .seq vs n) → (a, o) ∈ nw) : CbrPost qs tg rr nw := by
  rcases x with x | ⟨h1, rl, e, d⟩
  · exact .inl x
  · exact .inr ⟨h1, rl, e, datIn_off h d⟩
theorem leave_any {h₀ h : Heap} {L L' : Addr} {m m' : Str → Option Value} {oL : Obj} {news' : Led} (C : TI.Caller h₀ L m oL) (F' : Fr h₀ L' h m') (N' : News h₀ L' h news') (hL : (L, oL) ∈ news') :
    Fr h₀ L h m ∧ News h₀ L h (news'.filter fun p => p.1 != L) ∧ ∀ a o, (a, o) ∈ news' → (∃ vs n, o.data = .seq vs n) → (a, o) ∈ news'.filter fun p => p.1 != L := by
  obtain ⟨es, ep, hd⟩ := C.dict
  have hb := backF (sl := oL.slots) (news := news'.filter fun p => p.1 != L) C F' N' hL fun p hp => by
    rw [List.mem_filter] at hp
    exact ⟨hp.1, by simpa using hp.2⟩
  refine ⟨hb.1, hb.2, fun a o ha ⟨vs, n, hs⟩ => ?_⟩
  rw [List.mem_filter]
  refine ⟨ha, ?_⟩
  simp only [bne_iff_ne, ne_eq]
  rintro rfl
  have e1 := (N' _ ha).1
  have e2 := (N' _ hL).1
  rw [e1] at e2
  cases e2
  rw [hs] at hd
  cases hd
theorem cbr_done {h₀ h' : Heap} {L L' : Addr} {m m' : Str → Option Value} {oL : Obj} {news news' : Led} {qs : List Int} {tg : Int} {u : Tok} {rr : Value} {rt : Addr} {P : Prop} (C : TI.Caller h₀ L m oL) (hne : ∀ p ∈ news, p.1 ≠ L) (lt : ∀ p ∈ (L, oL) :: news, p.1 < L') (F' : Fr h₀ L' h' m') (N' : News h₀ L' h' news')
    (hsub : ∀ p ∈ (L, oL) :: news, p ∈ news') (hfr : ∀ p ∈ news', p ∈ (L, oL) :: news ∨ FreshAt L' ((L, oL) :: news) p) (hp : CbrPost qs tg rr news') (hm : (rt, ({ cls := .type "tuple", data := .seq [Value.int tg u, rr].toArray } : Obj)) ∈ news')
    (hret : ∀ nw, CbrPost qs tg rr nw → (rt, ({ cls := .type "tuple", data := .seq [Value.int tg u, rr].toArray } : Obj)) ∈ nw → (∀ p ∈ news, p ∈ nw) → (∀ p ∈ nw, p ∈ news ∨ ∀ r ∈ news, r.1 ≠ p.1) → Fr h₀ L h' m → News h₀ L h' nw → P) : LeaveM P := by
  obtain ⟨F1, N1, off⟩ := leave_any C F' N' (hsub _ (.head _))
  refine hret _ (hp.off off) (off _ _ hm ⟨_, _, rfl⟩) (fun p hp => ?_) (fun p hp => ?_) F1 N1
  · rw [List.mem_filter]
    exact ⟨hsub p (.tail _ hp), by simpa using hne p hp⟩
  · rw [List.mem_filter] at hp
    rcases hfr p hp.1 with h | h
    · rcases List.mem_cons.mp h with rfl | h
      · simp at hp
      · exact .inl h
    · refine .inr fun r hr => ?_
      rcases h with h | h
      · exact Nat.ne_of_lt (Nat.lt_trans (lt r (.tail _ hr)) h)
      · exact h r (.tail _ hr)
theorem fnStmts28 : fnStmts 28 = [fnAt 28 0, fnAt 28 1, fnAt 28 2, fnAt 28 3, fnAt 28 4, fnAt 28 5, fnAt 28 6] := by rfl
end Mine
end
section
variable {w : World} {p : Program} {loose : List Str} {mean : ExcName → Option Value} {mg mb : Str → Option Value}
theorem Mine.Here.weak {w : World} {h₀ : Heap} {L : Addr} {h : Heap} {m : Str → Option Value} {news frs : Mine.Led} {l : List Env} {p : Program} {loose : List Str} {mean : ExcName → Option Value} {mg mb : Str → Option Value} {cs : Scope} {dp un bud b2 : Nat} (H : Mine.Here w h₀ L h m news frs l p loose mean mg mb cs dp un bud) (hb : b2 ≤ bud) : Mine.Here w h₀ L h m news frs l p loose mean mg mb cs dp un b2 :=
  ⟨H.F, H.X, H.N, H.T, H.Fs, H.sub, H.k, Nat.lt_of_le_of_lt (Nat.add_le_add_left hb _) H.d, Nat.lt_of_le_of_lt (Nat.add_le_add_left (Nat.mul_le_mul_left _ hb) _) H.u⟩
theorem Mine.Here.next {w : World} {h₀ : Heap} {L : Addr} {h h2 : Heap} {m m2 : Str → Option Value} {news nw2 frs : Mine.Led} {l : List Env} {p : Program} {loose : List Str} {mean : ExcName → Option Value} {mg mb : Str → Option Value} {cs : Scope} {dp un bud : Nat} (H : Mine.Here w h₀ L h m news frs l p loose mean mg mb cs dp un bud) (F : Fr h₀ L h2 m2) (N : News h₀ L h2 nw2) (hs : ∀ p ∈ frs, p ∈ nw2) : Mine.Here w h₀ L h2 m2 nw2 frs l p loose mean mg mb cs dp un bud :=
  ⟨F, H.X, N, H.T, H.Fs, hs, H.k, H.d, H.u⟩
theorem Mine.Here.now {w : World} {h₀ : Heap} {L : Addr} {h h2 : Heap} {m m2 : Str → Option Value} {news frs : Mine.Led} {l : List Env} {p : Program} {loose : List Str} {mean : ExcName → Option Value} {mg mb : Str → Option Value} {cs : Scope} {dp un bud : Nat} (H : Mine.Here w h₀ L h m news frs l p loose mean mg mb cs dp un bud) (F : Fr h₀ L h2 m2) (N : News h₀ L h2 news) : Mine.Here w h₀ L h2 m2 news frs l p loose mean mg mb cs dp un bud :=
  H.next F N H.sub
theorem Mine.cbr_Pn
  {dp un : Nat} {nm : Str} {cs : Scope} {fa : Addr} {cd : Value} {l : List Env} {h₀ : Heap} {L : Addr} {m : Str → Option Value} {news frs : Mine.Led} {s : Shared} {Q E : Value → Shared → Prop}
  {lp c : Addr} {ps : List Value} {n : Nat} {q : Int} {t : Tok} {al gr : Bool}  (H : Mine.Here w h₀ L s.heap m news frs l p loose mean mg mb cs dp un 14)
  (hlp : (lp, listOf ps.toArray n) ∈ news) (hps : ps ≠ []) (hpl : ps.length ≤ 300) (hm : (c, ({ cls := .type "tuple", data := .seq [Value.int q t].toArray } : Obj)) ∈ news)
  (hret : ∀ rt u tg rr h' tk' nw, (q = 1 ∨ q = 2 ∨ q = 4 ∨ q = 8) ∧ al = false ∧ gr = false → tg = q → Mine.CbrPost [q] tg rr nw → (rt, ({ cls := .type "tuple", data := .seq [Value.int tg u, rr].toArray } : Obj)) ∈ nw → (∀ p ∈ news, p ∈ nw) → (∀ p ∈ nw, p ∈ news ∨ ∀ r ∈ news, r.1 ≠ p.1) → Fr h₀ L h' m → News h₀ L h' nw → Q (.ref rt) { s with heap := h', toks := tk' })
  (hraise : ∀ e a0 h' tk' oL, ¬ ((q = 1 ∨ q = 2 ∨ q = 4 ∨ q = 8) ∧ al = false ∧ gr = false) → Heap.FlyingW h₀ (envOf nm cs L fa cd :: l) e (.ref 224) a0 h' → Mine.Up ((L, oL) :: frs) h' → E (.ref e) { s with heap := h', toks := tk' }) : wpAny (model rw_ar0036_02.row.prog w) ((Mine.Fa dp un (some []) l).deeper (envOf nm cs L fa cd)) (call (.ref 402) [.ref lp, .ref c, .none, .bool al, .bool gr]) Q E s := by
  refine Mine.cbr_enter H fun oL L' h₁ tk oc m' C hne lt hoc v1 v2 v3 v4 v5 H' => ?_
  rw [Mine.fnStmts28]
  refine wpAny_execs_cons ?_
  refine Mine.cbr_s0pn (H'.weak (by decide)) (.tail _ (.tail _ hlp)) hps hpl v1 (.tail _ (.tail _ hm)) v2 v3 v4 v5 (fun rt u m2 h2 tk2 news2 good hrt hsub hfr F2 N2 => ?_) (fun e a0 h2 tk2 bad fl up => hraise e a0 h2 tk2 oL bad fl up)
  show Mine.LeaveM (Q (.ref rt) _)
  exact Mine.cbr_done (qs := [q]) C hne lt F2 N2 (fun p hp => hsub p (.tail _ hp)) (fun p hp => by
    rcases hfr p hp with h | h
    · rcases List.mem_cons.mp h with rfl | h
      · exact .inr (.inl (Nat.lt_succ_self _))
      · exact .inl h
    · exact .inr (.inl (Nat.lt_trans (Nat.lt_succ_self _) (h _ (.head _))))) (.inl ⟨fun z hz => List.mem_singleton.mp hz, rfl⟩) hrt fun nw a1 a2 a3 a4 F3 N3 => hret rt u q .none h2 tk2 nw good rfl a1 a2 a3 a4 F3 N3
theorem Mine.cbr_Pr
  {dp un : Nat} {nm : Str} {cs : Scope} {fa : Addr} {cd : Value} {l : List Env} {h₀ : Heap} {L : Addr} {m : Str → Option Value} {news frs : Mine.Led} {s : Shared} {Q E : Value → Shared → Prop}
  {lp c : Addr} {ps : List Value} {n : Nat} {q : Int} {t : Tok} {al gr : Bool} {ta : Addr} (H : Mine.Here w h₀ L s.heap m news frs l p loose mean mg mb cs dp un 14)
  (hlp : (lp, listOf ps.toArray n) ∈ news) (hps : ps ≠ []) (hpl : ps.length ≤ 300) (hm : (c, ({ cls := .type "tuple", data := .seq [Value.int q t].toArray } : Obj)) ∈ news)
  
  (hraise : ∀ e a0 h' tk' oL, True → Heap.FlyingW h₀ (envOf nm cs L fa cd :: l) e (.ref 224) a0 h' → Mine.Up ((L, oL) :: frs) h' → E (.ref e) { s with heap := h', toks := tk' }) : wpAny (model rw_ar0036_02.row.prog w) ((Mine.Fa dp un (some []) l).deeper (envOf nm cs L fa cd)) (call (.ref 402) [.ref lp, .ref c, .ref ta, .bool al, .bool gr]) Q E s := by
  refine Mine.cbr_enter H fun oL L' h₁ tk oc m' C hne lt hoc v1 v2 v3 v4 v5 H' => ?_
  rw [Mine.fnStmts28]
  refine wpAny_execs_cons ?_
  exact Mine.cbr_s0pr (H'.weak (by decide)) (.tail _ (.tail _ hlp)) hps hpl v1 (.tail _ (.tail _ hm)) v2 v3 v4 v5 (fun e a0 h2 tk2 bad fl up => hraise e a0 h2 tk2 oL bad fl up)
theorem Mine.cbr_Pi
  {dp un : Nat} {nm : Str} {cs : Scope} {fa : Addr} {cd : Value} {l : List Env} {h₀ : Heap} {L : Addr} {m : Str → Option Value} {news frs : Mine.Led} {s : Shared} {Q E : Value → Shared → Prop}
  {lp c : Addr} {ps : List Value} {n : Nat} {q : Int} {t : Tok} {al gr : Bool} {tn : Int} {tt : Tok} (H : Mine.Here w h₀ L s.heap m news frs l p loose mean mg mb cs dp un 14)
  (hlp : (lp, listOf ps.toArray n) ∈ news) (hps : ps ≠ []) (hpl : ps.length ≤ 300) (hm : (c, ({ cls := .type "tuple", data := .seq [Value.int q t].toArray } : Obj)) ∈ news)
  
  (hraise : ∀ e a0 h' tk' oL, True → Heap.FlyingW h₀ (envOf nm cs L fa cd :: l) e (.ref 224) a0 h' → Mine.Up ((L, oL) :: frs) h' → E (.ref e) { s with heap := h', toks := tk' }) : wpAny (model rw_ar0036_02.row.prog w) ((Mine.Fa dp un (some []) l).deeper (envOf nm cs L fa cd)) (call (.ref 402) [.ref lp, .ref c, .int tn tt, .bool al, .bool gr]) Q E s := by
  refine Mine.cbr_enter H fun oL L' h₁ tk oc m' C hne lt hoc v1 v2 v3 v4 v5 H' => ?_
  rw [Mine.fnStmts28]
  refine wpAny_execs_cons ?_
  exact Mine.cbr_s0pi (H'.weak (by decide)) (.tail _ (.tail _ hlp)) hps hpl v1 (.tail _ (.tail _ hm)) v2 v3 v4 v5 (fun e a0 h2 tk2 bad fl up => hraise e a0 h2 tk2 oL bad fl up)
theorem Mine.cbr_G
  {dp un : Nat} {nm : Str} {cs : Scope} {fa : Addr} {cd : Value} {l : List Env} {h₀ : Heap} {L : Addr} {m : Str → Option Value} {news frs : Mine.Led} {s : Shared} {Q E : Value → Shared → Prop}
  {c : Addr} {q : Int} {t : Tok} {tr : Value} (H : Mine.Here w h₀ L s.heap m news frs l p loose mean mg mb cs dp un 14)
  (hm : (c, ({ cls := .type "tuple", data := .seq [Value.int q t].toArray } : Obj)) ∈ news) (hq : 1 ≤ q ∧ q ≤ 16)
  (hret : ∀ rt u tg rr h' tk' nw, (tg = if (q = 1 ∨ q = 2 ∨ q = 4 ∨ q = 8 ∨ q = 16) then q else (if 8 < q then 16 else if q = 3 then 4 else 8)) → Mine.CbrPost [q] tg rr nw → (rt, ({ cls := .type "tuple", data := .seq [Value.int tg u, rr].toArray } : Obj)) ∈ nw → (∀ p ∈ news, p ∈ nw) → (∀ p ∈ nw, p ∈ news ∨ ∀ r ∈ news, r.1 ≠ p.1) → Fr h₀ L h' m → News h₀ L h' nw → Q (.ref rt) { s with heap := h', toks := tk' }) : wpAny (model rw_ar0036_02.row.prog w) ((Mine.Fa dp un (some []) l).deeper (envOf nm cs L fa cd)) (call (.ref 402) [.none, .ref c, tr, .bool false, .bool true]) Q E s := by
  refine Mine.cbr_enter H fun oL L' h₁ tk oc m' C hne lt hoc v1 v2 v3 v4 v5 H' => ?_
  have hnx : ∀ p ∈ (L, oL) :: news, p.1 ≠ L' + 1 := Mine.ne_succ lt
  obtain ⟨F', X', N', T', Fs', sub', hk', hd', hu'⟩ := H'
  rw [Mine.fnStmts28]
  refine wpAny_execs_cons (Mine.cbr_s0n ⟨F', X', N', T', Fs', sub', hk', by omega, by omega⟩ v1 fun h2 tk2 F2 N2 => ?_)
  refine wpAny_execs_cons ?_
  refine Mine.cbr_s1g (L := L') ⟨F2, X', N2, T', Fs', sub', hk', by omega, by omega⟩ hoc hnx v5 v4 (.tail _ hm) v2 hq (fun rt u m3 h3 tk3 news3 good hrt hsub hfr F3 N3 => ?_) (fun rt u rl tg m3 h3 tk3 news3 good hrt hrl hsub hfr F3 N3 => ?_)
  · show Mine.LeaveM (Q (.ref rt) _)
    exact Mine.cbr_done (qs := [q]) C hne lt F3 N3 hsub hfr (.inl ⟨fun z hz => List.mem_singleton.mp hz, rfl⟩) hrt fun nw a1 a2 a3 a4 F4 N4 => hret rt u q .none h3 tk3 nw (by rw [if_pos good]) a1 a2 a3 a4 F4 N4
  · show Mine.LeaveM (Q (.ref rt) _)
    refine Mine.cbr_done (qs := [q]) C hne lt F3 N3 hsub hfr (.inr ⟨⟨q, .head _, ?_⟩, rl, rfl, hrl⟩) hrt fun nw a1 a2 a3 a4 F4 N4 => hret rt u tg (.ref rl) h3 tk3 nw (by rw [if_neg good.1]; exact good.2) a1 a2 a3 a4 F4 N4
    have g1 := good.1
    have g2 := good.2
    intro e
    rw [← e] at g2
    split at g2 <;> (try split at g2) <;> omega
theorem Mine.ints_234 {vs : List Value} {qs : List Int} (hi : IntsAre vs qs) (h2 : 2 ≤ vs.length) (h4 : vs.length ≤ 4) : (∃ q1 u1 q2 u2, vs = [Value.int q1 u1, .int q2 u2] ∧ qs = [q1, q2]) ∨ (∃ q1 u1 q2 u2 q3 u3, vs = [Value.int q1 u1, .int q2 u2, .int q3 u3] ∧ qs = [q1, q2, q3]) ∨ ∃ q1 u1 q2 u2 q3 u3 q4 u4, vs = [Value.int q1 u1, .int q2 u2, .int q3 u3, .int q4 u4] ∧ qs = [q1, q2, q3, q4] := by
  cases hi with
  | nil => simp at h2
  | cons q1 u1 hi => cases hi with
    | nil => simp at h2
    | cons q2 u2 hi => cases hi with
      | nil => exact .inl ⟨_, _, _, _, rfl, rfl⟩
      | cons q3 u3 hi => cases hi with
        | nil => exact .inr (.inl ⟨_, _, _, _, _, _, rfl, rfl⟩)
        | cons q4 u4 hi => cases hi with
          | nil => exact .inr (.inr ⟨_, _, _, _, _, _, _, _, rfl, rfl⟩)
          | cons q5 u5 hi => simp at h4
theorem Mine.cbr_tail
  {dp un : Nat} {nm : Str} {fa : Addr} {cd : Value} {l : List Env} {h₀ : Heap} {L : Addr} {m : Str → Option Value} {news frs : Mine.Led} {s : Shared} {Q : Flow → Shared → Prop} {R : Result → Shared → Prop}
  {oc : Obj} {v0 : Option Value} {c : Addr} {vs : List Value} {qs : List Int} (H : Mine.Here w h₀ L s.heap m ((L + 1, oc) :: news) frs l p loose mean mg mb (Mine.fnScope 28) dp un 8) (hsub : ∀ p ∈ frs, p ∈ news)
  (hoc : oc.data = .cell v0) (hnx : ∀ p ∈ news, p.1 ≠ L + 1) (hm : (c, ({ cls := .type "tuple", data := .seq vs.toArray } : Obj)) ∈ news) (v3 : m "bitdepth" = some (.ref c)) (hi : IntsAre vs qs) (h2 : 2 ≤ vs.length) (h4 : vs.length ≤ 4)
  (hret : ∀ rt u tg rl m' h' tk' news', (tg = if ∃ q ∈ qs, 8 < q then 16 else 8) → (rt, ({ cls := .type "tuple", data := .seq [Value.int tg u, .ref rl].toArray } : Obj)) ∈ news' → DatIn news' (.ref rl) (Dat.list (qs.map fun q => Dat.tuple [.int q, .int tg])) → (∀ p ∈ news, p ∈ news') → (∀ p ∈ news', p ∈ news ∨ Mine.FreshAt L news p) → Fr h₀ L h' m' → News h₀ L h' news' → Q (.ret (.ref rt)) { s with heap := h', toks := tk' }) :
  wpAny (model rw_ar0036_02.row.prog w) ((Mine.Fa dp un (some []) l).deeper (envOfC nm (Mine.fnScope 28) L fa cd)) (execs [Mine.fnAt 28 5, Mine.fnAt 28 6] (envOfC nm (Mine.fnScope 28) L fa cd)) Q (Mine.Out w ((Mine.Fa dp un (some []) l).deeper (envOfC nm (Mine.fnScope 28) L fa cd)) (envOfC nm (Mine.fnScope 28) L fa cd) R) s := by
  refine wpAny_execs_cons ?_
  refine Mine.cbr_s5 H hoc hnx hm v3 hi (by omega) fun oc6 tg u M h6 tk6 news6 hM hmax htg hoc6 hsub6 hfr6 ne6 F6 N6 => ?_
  have htg' : tg = if ∃ q ∈ qs, 8 < q then 16 else 8 := by
    rw [htg]
    by_cases hM8 : 8 < M
    · rw [if_pos hM8, if_pos ⟨M, hM, hM8⟩]
    · rw [if_neg hM8, if_neg (fun ⟨q, hq, h8⟩ => hM8 (Int.lt_of_lt_of_le h8 (hmax q hq)))]
  have H6 := H.next F6 N6 (fun p hp => .tail _ (hsub6 p (hsub p hp)))
  have hm6 := hsub6 _ hm
  have fin : ∀ (rt : Addr) (u : Tok) (rl : Addr) (m' : Str → Option Value) (h' : Heap) (tk' : Nat) (news' : Mine.Led), (rt, ({ cls := .type "tuple", data := .seq [Value.int tg u, .ref rl].toArray } : Obj)) ∈ news' → DatIn news' (.ref rl) (Dat.list (qs.map fun q => Dat.tuple [.int q, .int tg])) → (∀ p ∈ news6, p ∈ news') → (∀ p ∈ news', p ∈ news6 ∨ Mine.FreshAt L news6 p) → Fr h₀ L h' m' → News h₀ L h' news' → Q (.ret (.ref rt)) { s with heap := h', toks := tk' } := fun rt u rl m' h' tk' news' a1 a2 a3 a4 a5 a6 =>
    hret rt u tg rl m' h' tk' news' htg' a1 a2 (fun p hp => a3 p (hsub6 p hp)) (fun p hp => by
      rcases a4 p hp with h | h | h
      · rcases hfr6 p h with h | h | h
        · exact .inl h
        · exact .inr (.inl (Nat.lt_trans (Nat.lt_succ_self _) h))
        · exact .inr (.inr h)
      · exact .inr (.inl h)
      · exact .inr (.inr fun r hr => h r (hsub6 r hr))) a5 a6
  refine wpAny_execs_cons ?_
  rcases ints_234 hi h2 h4 with ⟨q1, u1, q2, u2, e1, e2⟩ | ⟨q1, u1, q2, u2, q3, u3, e1, e2⟩ | ⟨q1, u1, q2, u2, q3, u3, q4, u4, e1, e2⟩
  · exact Mine.cbr_s6_2 H6 hoc6 ne6 (e1 ▸ hm6) v3 fun rt u rl m' h' tk' news' a1 a2 a3 a4 a5 a6 => fin rt u rl m' h' tk' news' a1 (e2 ▸ a2) a3 a4 a5 a6
  · exact Mine.cbr_s6_3 H6 hoc6 ne6 (e1 ▸ hm6) v3 fun rt u rl m' h' tk' news' a1 a2 a3 a4 a5 a6 => fin rt u rl m' h' tk' news' a1 (e2 ▸ a2) a3 a4 a5 a6
  · exact Mine.cbr_s6_4 H6 hoc6 ne6 (e1 ▸ hm6) v3 fun rt u rl m' h' tk' news' a1 a2 a3 a4 a5 a6 => fin rt u rl m' h' tk' news' a1 (e2 ▸ a2) a3 a4 a5 a6
theorem Mine.cbr_C
  {dp un : Nat} {nm : Str} {cs : Scope} {fa : Addr} {cd : Value} {l : List Env} {h₀ : Heap} {L : Addr} {m : Str → Option Value} {news frs : Mine.Led} {s : Shared} {Q E : Value → Shared → Prop}
  {c : Addr} {vs : List Value} {qs : List Int} {tr : Value} {al gr : Bool} (H : Mine.Here w h₀ L s.heap m news frs l p loose mean mg mb cs dp un 14)
  (hm : (c, ({ cls := .type "tuple", data := .seq vs.toArray } : Obj)) ∈ news) (hi : IntsAre vs qs) (hr : ∀ q ∈ qs, 1 ≤ q ∧ q ≤ 16) (hl2 : 2 ≤ vs.length) (hl4 : vs.length ≤ 4) (hga : gr = true → al = true)
  (hret : ∀ rt u tg rr h' tk' nw, (tg = if ∃ q ∈ qs, 8 < q then 16 else 8) → Mine.CbrPost qs tg rr nw → (rt, ({ cls := .type "tuple", data := .seq [Value.int tg u, rr].toArray } : Obj)) ∈ nw → (∀ p ∈ news, p ∈ nw) → (∀ p ∈ nw, p ∈ news ∨ ∀ r ∈ news, r.1 ≠ p.1) → Fr h₀ L h' m → News h₀ L h' nw → Q (.ref rt) { s with heap := h', toks := tk' }) : wpAny (model rw_ar0036_02.row.prog w) ((Mine.Fa dp un (some []) l).deeper (envOf nm cs L fa cd)) (call (.ref 402) [.none, .ref c, tr, .bool al, .bool gr]) Q E s := by
  have hlq : qs.length = vs.length := (IntsAre.length hi).symm
  refine Mine.cbr_enter H fun oL L' h₁ tk oc m' C hne lt hoc v1 v2 v3 v4 v5 H' => ?_
  have hnx : ∀ p ∈ (L, oL) :: news, p.1 ≠ L' + 1 := Mine.ne_succ lt
  have hsubF : ∀ p ∈ (L, oL) :: frs, p ∈ (L, oL) :: news := fun p hp => (List.mem_cons.mp hp).elim (fun h => h ▸ .head _) fun h => .tail _ (H.sub p h)
  rw [Mine.fnStmts28]
  refine wpAny_execs_cons (Mine.cbr_s0n (H'.weak (by decide)) v1 fun h2 tk2 F2 N2 => ?_)
  have H2 := H'.now F2 N2
  refine wpAny_execs_cons (Mine.cbr_s1n (H2.weak (by decide)) v5 v4 hga fun h3 tk3 F3 N3 => ?_)
  have H3 := H2.now F3 N3
  refine wpAny_execs_cons (Mine.cbr_s2 (H3.weak (by decide)) v5 v4 hga fun h4 tk4 F4 N4 => ?_)
  have H4 := H3.now F4 N4
  have tail : ∀ (m5 : Str → Option Value) (h5 : Heap) (tk5 : Nat) (nw5 : Mine.Led), m5 "bitdepth" = some (.ref c) → (∀ p ∈ (L, oL) :: news, p ∈ nw5) → (∀ p ∈ nw5, p ∈ (L, oL) :: news ∨ L' + 1 < p.1) → (∀ p ∈ nw5, p.1 ≠ L' + 1) → Fr h₀ L' h5 m5 → News h₀ L' h5 ((L' + 1, oc) :: nw5) → (∀ tg, (tg = if ∃ q ∈ qs, 8 < q then 16 else 8) → ∃ q ∈ qs, q ≠ tg) →
      wpAny (model rw_ar0036_02.row.prog w) ((Mine.Fa (dp + 1) (un + 3) (some []) (envOf nm cs L fa cd :: l)).deeper (envOfC "check_bitdepth_rescale" (Mine.fnScope 28) L' 402 (.ref 401))) (execs [Mine.fnAt 28 5, Mine.fnAt 28 6] (envOfC "check_bitdepth_rescale" (Mine.fnScope 28) L' 402 (.ref 401)))
      (fun fl s' => Mine.LeaveM (Q (match fl with | .ret v => v | _ => .none) s'))
      (Mine.Out w ((Mine.Fa (dp + 1) (un + 3) (some []) (envOf nm cs L fa cd :: l)).deeper (envOfC "check_bitdepth_rescale" (Mine.fnScope 28) L' 402 (.ref 401))) (envOfC "check_bitdepth_rescale" (Mine.fnScope 28) L' 402 (.ref 401)) (fun r s' => match r with | .ok (.ret v) => Q v s' | .ok _ => False | .error e => E e s'))
      { s with heap := h5, toks := tk5 } := by
    intro m5 h5 tk5 nw5 b5 sub5 fr5 ne5 F5 N5 hdif
    refine Mine.cbr_tail (L := L') ((H4.next F5 N5 (fun p hp => .tail _ (sub5 p (hsubF p hp)))).weak (by decide)) (fun p hp => sub5 p (hsubF p hp)) hoc ne5 (sub5 _ (.tail _ hm)) b5 hi hl2 hl4 fun rt u tg rl m6 h6 tk6 news6 htg hrt hrl hsub6 hfr6 F6 N6 => ?_
    show Mine.LeaveM (Q (.ref rt) _)
    refine Mine.cbr_done (qs := qs) C hne lt F6 N6 (fun p hp => hsub6 p (sub5 p hp)) (fun p hp => ?_) (.inr ⟨hdif tg htg, rl, rfl, hrl⟩) hrt fun nw a1 a2 a3 a4 F7 N7 => hret rt u tg (.ref rl) h6 tk6 nw htg a1 a2 a3 a4 F7 N7
    rcases hfr6 p hp with h | h | h
    · rcases fr5 p h with h | h
      · exact .inl h
      · exact .inr (.inl (Nat.lt_trans (Nat.lt_succ_self _) h))
    · exact .inr (.inl h)
    · exact .inr (.inr fun r hr => h r (sub5 r hr))
  have cls : ∀ (c2 : Addr) (o2 : Obj) (news6 : Mine.Led), (∀ p ∈ (L' + 1, oc) :: (L, oL) :: news, p.1 < c2) → (∀ p ∈ news6, p ∈ (c2, o2) :: (L' + 1, oc) :: (L, oL) :: news ∨ ∀ r ∈ (c2, o2) :: (L' + 1, oc) :: (L, oL) :: news, r.1 < p.1) → ∀ p ∈ news6, p = (L' + 1, oc) ∨ p ∈ (L, oL) :: news ∨ L' + 1 < p.1 := fun c2 o2 news6 lt6 fr6 p hp => by
    rcases fr6 p hp with h | h
    · rcases List.mem_cons.mp h with rfl | h
      · exact .inr (.inr (lt6 _ (.head _)))
      · rcases List.mem_cons.mp h with rfl | h
        · exact .inl rfl
        · exact .inr (.inl h)
    · exact .inr (.inr (h _ (.tail _ (.head _))))
  have go : ∀ (c2 : Addr) (o2 : Obj) (m5 : Str → Option Value) (h6 : Heap) (tk6 : Nat) (news6 : Mine.Led), m5 "bitdepth" = some (.ref c) → (∀ p ∈ (L' + 1, oc) :: (L, oL) :: news, p.1 < c2) → (∀ p ∈ (c2, o2) :: (L' + 1, oc) :: (L, oL) :: news, p ∈ news6) → (∀ p ∈ news6, p ∈ (c2, o2) :: (L' + 1, oc) :: (L, oL) :: news ∨ ∀ r ∈ (c2, o2) :: (L' + 1, oc) :: (L, oL) :: news, r.1 < p.1) → Fr h₀ L' h6 m5 → News h₀ L' h6 news6 → (∀ tg, (tg = if ∃ q ∈ qs, 8 < q then 16 else 8) → ∃ q ∈ qs, q ≠ tg) →
      wpAny (model rw_ar0036_02.row.prog w) ((Mine.Fa (dp + 1) (un + 3) (some []) (envOf nm cs L fa cd :: l)).deeper (envOfC "check_bitdepth_rescale" (Mine.fnScope 28) L' 402 (.ref 401))) (execs [Mine.fnAt 28 5, Mine.fnAt 28 6] (envOfC "check_bitdepth_rescale" (Mine.fnScope 28) L' 402 (.ref 401)))
      (fun fl s' => Mine.LeaveM (Q (match fl with | .ret v => v | _ => .none) s'))
      (Mine.Out w ((Mine.Fa (dp + 1) (un + 3) (some []) (envOf nm cs L fa cd :: l)).deeper (envOfC "check_bitdepth_rescale" (Mine.fnScope 28) L' 402 (.ref 401))) (envOfC "check_bitdepth_rescale" (Mine.fnScope 28) L' 402 (.ref 401)) (fun r s' => match r with | .ok (.ret v) => Q v s' | .ok _ => False | .error e => E e s'))
      { s with heap := h6, toks := tk6 } := fun c2 o2 m5 h6 tk6 news6 b5 lt6 sub6 fr6 F6 N6 hdif => by
    refine tail m5 h6 tk6 (news6.filter fun p => p.1 != L' + 1) b5 (fun p hp => ?_) (fun p hp => ?_) (fun p hp => ?_) F6 (fun p hp => ?_) hdif
    · rw [List.mem_filter]
      exact ⟨sub6 p (.tail _ (.tail _ hp)), by simpa using hnx p hp⟩
    · rw [List.mem_filter] at hp
      rcases cls c2 o2 news6 lt6 fr6 p hp.1 with rfl | h | h
      · simp at hp
      · exact .inl h
      · exact .inr h
    · rw [List.mem_filter] at hp
      simpa using hp.2
    · rcases List.mem_cons.mp hp with rfl | hp
      · exact N6 _ (sub6 _ (.tail _ (.head _)))
      · rw [List.mem_filter] at hp
        exact N6 p hp.1
  have v2' : ∀ (y : Value), (fun z => if z = "depth_set" then some y else m' z) "bitdepth" = some (.ref c) := fun y => by
    show (if ("bitdepth" : Str) = "depth_set" then some y else m' "bitdepth") = some (.ref c)
    rw [if_neg (by decide)]; exact v2
  have v1' : ∀ (y : Value), (fun z => if z = "depth_set" then some y else m' z) "depth_set" = some y := fun y => if_pos rfl
  have hq4 : qs.length ≤ 4 := by omega
  have hqn : qs ≠ [] := fun e => by rw [e] at hlq; simp at hlq; omega
  by_cases hall : ∃ q0, ∀ q ∈ qs, q = q0
  · obtain ⟨q0, hall⟩ := hall
    have hq0 : q0 ∈ qs := by
      obtain ⟨x, hx⟩ := List.exists_mem_of_ne_nil qs hqn
      rw [← hall x hx]; exact hx
    refine wpAny_execs_cons (Mine.cbr_s3a (H4.weak (by decide)) (.tail _ (.tail _ hm)) v2 hi hr hl4 hq4 hqn hall fun c2 u g5 tk5 lt5 F5 N5 => ?_)
    have H5 := H4.next F5 N5 (fun p hp => .tail _ (H4.sub p hp))
    refine wpAny_execs_cons ?_
    refine Mine.cbr_s4a (H5.weak (by decide)) (.head _) (v1' (.ref c2)) (fun g6 tk6 news6 hno sub6 fr6 F6 N6 => ?_) (fun rt u6 m6 g6 tk6 news6 hyes hrt sub6 fr6 F6 N6 => ?_)
    · refine go c2 _ (fun z => if z = "depth_set" then some (.ref c2) else m' z) g6 tk6 news6 (v2' (.ref c2)) lt5 sub6 fr6 F6 N6 fun tg htg => ⟨q0, hq0, ?_⟩
      rintro rfl
      split at htg
      · exact hno (.inr htg)
      · exact hno (.inl htg)
    · show Mine.LeaveM (Q (.ref rt) _)
      refine Mine.cbr_done (qs := qs) C hne lt F6 N6 (fun p hp => sub6 p (.tail _ (.tail _ hp))) (fun p hp => ?_) (.inl ⟨hall, rfl⟩) hrt fun nw a1 a2 a3 a4 F7 N7 => hret rt u6 q0 .none g6 tk6 nw ?_ a1 a2 a3 a4 F7 N7
      · rcases cls c2 _ news6 lt5 fr6 p hp with rfl | h | h
        · exact .inr (.inl (Nat.lt_succ_self _))
        · exact .inl h
        · exact .inr (.inl (Nat.lt_trans (Nat.lt_succ_self _) h))
      · rcases hyes with rfl | rfl
        · rw [if_neg]
          rintro ⟨q, hq, h8⟩
          rw [hall q hq] at h8
          omega
        · rw [if_pos ⟨16, hq0, by decide⟩]
  · have hdf : ∃ a ∈ qs, ∃ b ∈ qs, a ≠ b := by
      obtain ⟨x, hx⟩ := List.exists_mem_of_ne_nil qs hqn
      refine ⟨x, hx, ?_⟩
      false_or_by_contra
      rename_i hn
      refine hall ⟨x, fun q hq => ?_⟩
      false_or_by_contra
      rename_i hqx
      exact hn ⟨q, hq, fun e => hqx e.symm⟩
    refine wpAny_execs_cons (Mine.cbr_s3b (q0 := 0) (H4.weak (by decide)) (.tail _ (.tail _ hm)) v2 hi hr hl4 hq4 hdf fun c2 vs2 ds2 g5 tk5 lt5 hi2 hd2 F5 N5 => ?_)
    have H5 := H4.next F5 N5 (fun p hp => .tail _ (H4.sub p hp))
    refine wpAny_execs_cons ?_
    refine Mine.cbr_s4b (H5.weak (by decide)) (.head _) (v1' (.ref c2)) hi2 hd2 (fun g6 tk6 news6 sub6 fr6 F6 N6 => ?_)
    refine go c2 _ (fun z => if z = "depth_set" then some (.ref c2) else m' z) g6 tk6 news6 (v2' (.ref c2)) lt5 sub6 fr6 F6 N6 fun tg htg => ?_
    obtain ⟨a, ha, b, hb, hab⟩ := hdf
    by_cases e : a = tg
    · exact ⟨b, hb, fun e2 => hab (e.trans e2.symm)⟩
    · exact ⟨a, ha, e⟩
end
section
local macro_rules | `(tactic| walk_at $s:str) => Mine.hand "i34 " s
local macro_rules | `(tactic| walk_at "p") => Mine.pad
theorem Mine.k5 : True := by
 k_with "i34 mine back" => ((obtain ⟨nw2'47q, N2'47q, s2'47q, n2'47q, o2'47q⟩ := Mine.front (by with_reducible assumption) (by with_reducible assumption) (by with_reducible assumption) ⟨_, _, rfl⟩))
 k_with "i34 call ref" => ((k_here; (with_reducible show wpAny _ _ (call (Value.ref 402) _) _ _ _); k_dflt (refine' Mine.cbr_C ?H ?m ?i ?r ?l2 ?l4 ?g ?_; (case H => walk_at "mine here"); (case m => k_mem); (case i => assumption); (case r => assumption); (case l2 => assumption); (case l4 => assumption); (case g => assumption)); intro rt' u' tg' rr' h' tk' nw' gd' post' hrt' sub3' fr' F' N'; (obtain ⟨nw2', N2', s2', n2', o2'⟩ := Mine.front N' hne sub3' ⟨_, _, rfl⟩); clear N'; have hrt2' := o2' _ _ hrt' ⟨_, _, rfl⟩; have post2' := Mine.CbrPost.off post' o2'; have hx2' := s2' _ hx; have sub5' := (fun p hp => s2' p (sub2 p hp) : ∀ p ∈ frs, p ∈ nw2'); clear hrt' post' o2' fr' sub3'))
 trivial
theorem Mine.init_s15C {w : World} {p : Program} {loose : List Str} {mean : ExcName → Option Value} {mg mb : Str → Option Value}
 {dp un : Nat} {nm : Str} {fa : Addr} {cd : Value} {l : List Env} {h₀ : Heap} {L : Addr} {m : Str → Option Value} {frs : Mine.Led} {s : Shared} {Q : Flow → Shared → Prop} {R : Result → Shared → Prop}
 {x d : Addr} {n0 : Nat} {sl : Array (Option Value)} {rest : Mine.Led} {c : Addr} {vs : List Value} {qs : List Int} {tr : Value} {al gr : Bool} (H : Mine.Here w h₀ L s.heap m ((d, dictOf [] n0) :: rest) frs l p loose mean mg mb Mine.initScope dp un 16)
 (sub2 : ∀ p ∈ frs, p ∈ rest) (hne : ∀ p ∈ rest, p.1 ≠ d) (hx : (x, (⟨.ref 359, some d, .plain, sl⟩ : Obj)) ∈ rest) (e0 : Mine.EntsAre w [] []) (v0 : m "self" = some (.ref x)) (hm : (c, ({ cls := .type "tuple", data := .seq vs.toArray } : Obj)) ∈ rest) (v3 : m "bitdepth" = some (.ref c)) (hi : IntsAre vs qs) (hr : ∀ q ∈ qs, 1 ≤ q ∧ q ≤ 16) (hl2 : 2 ≤ vs.length) (hl4 : vs.length ≤ 4) (hga : gr = true → al = true) (v1 : m "palette" = some .none) (v4 : m "transparent" = some tr) (v5 : m "alpha" = some (.bool al)) (v6 : m "greyscale" = some (.bool gr)) (hret : ∀ tg u rr h' tk' es' n' nw, (tg = if ∃ q ∈ qs, 8 < q then 16 else 8) → Mine.CbrPost qs tg rr nw → Mine.EntsAre w es' [("rescale", rr)] → (∀ p ∈ rest, p ∈ nw) → (∀ p ∈ nw, p.1 ≠ d) → Fr h₀ L h' (fun y => if y = "bitdepth" then some (.int tg u) else m y) → News h₀ L h' ((d, dictOf es' n') :: nw) → Q .next { s with heap := h', toks := tk' }) :
 wpAny (model rw_ar0036_02.row.prog w) ((Mine.Fa dp un (some []) l).deeper (envOf nm Mine.initScope L fa cd)) (exec (Mine.initAt 15) (envOf nm Mine.initScope L fa cd)) Q (Mine.Out w ((Mine.Fa dp un (some []) l).deeper (envOf nm Mine.initScope L fa cd)) (envOf nm Mine.initScope L fa cd) R) s := by
 obtain ⟨F, X, N, T, Fs, sub, hk, hdp, hun⟩ := H
 (conv => arg 3; arg 1; whnf)
 walk_at "mine lit"
 w_on
 w_strict (
  revert X
  k_fill
  intro X
  
  k_steps)
 all_goals first | exact (Str.ofString "") | exact (0 : Nat) | exact Value.none | skip
 all_goals first | (refine' hret _ _ _ _ _ _ _ _ ?g ?a ?b ?c ?d ?e ?f; (case e => assumption); (case f => assumption); (case b => assumption); (case g => assumption); (case a => assumption); (case c => assumption); (case d => assumption))
end
section
variable {w : World} {p : Program} {loose : List Str} {mean : ExcName → Option Value} {mg mb : Str → Option Value}
local macro_rules | `(tactic| walk_at $s:str) => Mine.hand "i35 " s
theorem Mine.k6 : True := by
 k_with "i35 mine back" => ((obtain ⟨nw2'48q, N2'48q, s2'48q, n2'48q, o2'48q⟩ := Mine.front (by with_reducible assumption) (by with_reducible assumption) (by with_reducible assumption) ⟨_, _, rfl⟩))
 k_with "i35 call ref" => ((k_here; (with_reducible show wpAny _ _ (call (Value.ref 402) _) _ _ _); k_dflt (refine' Mine.cbr_G ?H ?m ?q ?_; (case H => walk_at "mine here"); (case m => k_mem); (case q => assumption)); intro rt' u' tg' rr' h' tk' nw' gd' post' hrt' sub3' fr' F' N'; (obtain ⟨nw2', N2', s2', n2', o2'⟩ := Mine.front N' hne sub3' ⟨_, _, rfl⟩); clear N'; have hrt2' := o2' _ _ hrt' ⟨_, _, rfl⟩; have post2' := Mine.CbrPost.off post' o2'; have hx2' := s2' _ hx; have sub5' := (fun p hp => s2' p (sub2 p hp) : ∀ p ∈ frs, p ∈ nw2'); clear hrt' post' o2' fr' sub3'))
 trivial
theorem Mine.init_s15G
 {dp un : Nat} {nm : Str} {fa : Addr} {cd : Value} {l : List Env} {h₀ : Heap} {L : Addr} {m : Str → Option Value} {frs : Mine.Led} {s : Shared} {Q : Flow → Shared → Prop} {R : Result → Shared → Prop}
 {x d : Addr} {n0 : Nat} {sl : Array (Option Value)} {rest : Mine.Led} {c : Addr} {q : Int} {t : Tok} {tr : Value} (H : Mine.Here w h₀ L s.heap m ((d, dictOf [] n0) :: rest) frs l p loose mean mg mb Mine.initScope dp un 16)
 (sub2 : ∀ p ∈ frs, p ∈ rest) (hne : ∀ p ∈ rest, p.1 ≠ d) (hx : (x, (⟨.ref 359, some d, .plain, sl⟩ : Obj)) ∈ rest) (e0 : Mine.EntsAre w [] []) (v0 : m "self" = some (.ref x)) (hm : (c, ({ cls := .type "tuple", data := .seq [Value.int q t].toArray } : Obj)) ∈ rest) (v3 : m "bitdepth" = some (.ref c)) (hq : 1 ≤ q ∧ q ≤ 16) (v1 : m "palette" = some .none) (v4 : m "transparent" = some tr) (v5 : m "alpha" = some (.bool false)) (v6 : m "greyscale" = some (.bool true)) (hret : ∀ tg u rr h' tk' es' n' nw, (tg = if (q = 1 ∨ q = 2 ∨ q = 4 ∨ q = 8 ∨ q = 16) then q else (if 8 < q then 16 else if q = 3 then 4 else 8)) → Mine.CbrPost [q] tg rr nw → Mine.EntsAre w es' [("rescale", rr)] → (∀ p ∈ rest, p ∈ nw) → (∀ p ∈ nw, p.1 ≠ d) → Fr h₀ L h' (fun y => if y = "bitdepth" then some (.int tg u) else m y) → News h₀ L h' ((d, dictOf es' n') :: nw) → Q .next { s with heap := h', toks := tk' }) :
 wpAny (model rw_ar0036_02.row.prog w) ((Mine.Fa dp un (some []) l).deeper (envOf nm Mine.initScope L fa cd)) (exec (Mine.initAt 15) (envOf nm Mine.initScope L fa cd)) Q (Mine.Out w ((Mine.Fa dp un (some []) l).deeper (envOf nm Mine.initScope L fa cd)) (envOf nm Mine.initScope L fa cd) R) s := by
 obtain ⟨F, X, N, T, Fs, sub, hk, hdp, hun⟩ := H
 (conv => arg 3; arg 1; whnf)
 walk_at "mine lit"
 w_on
 w_strict (
  revert X
  k_fill
  intro X
  
  k_steps)
 all_goals first | exact (Str.ofString "") | exact (0 : Nat) | exact Value.none | skip
 all_goals first | (refine' hret _ _ _ _ _ _ _ _ ?g ?a ?b ?c ?d ?e ?f; (case e => assumption); (case f => assumption); (case b => assumption); (case g => assumption); (case a => assumption); (case c => assumption); (case d => assumption))
theorem Mine.k7 : True := by
 k_with "i35 call ref" => ((k_here; (with_reducible show wpAny _ _ (call (Value.ref 402) _) _ _ _); k_dflt (refine' Mine.cbr_Pn ?H ?l ?p ?q ?m ?_ ?_; (case H => walk_at "mine here"); (case l => k_mem); (case p => assumption); (case q => assumption); (case m => k_mem)); first | (intro rt' u' tg' rr' h' tk' nw' gd' gt' post' hrt' sub3' fr' F' N'; (obtain ⟨nw2', N2', s2', n2', o2'⟩ := Mine.front N' hne sub3' ⟨_, _, rfl⟩); clear N'; have hrt2' := o2' _ _ hrt' ⟨_, _, rfl⟩; have post2' := Mine.CbrPost.off post' o2'; have hx2' := s2' _ hx; have sub5' := (fun p hp => s2' p (sub2 p hp) : ∀ p ∈ frs, p ∈ nw2'); clear hrt' post' o2' fr' sub3') | (intro e' a0' h' tk' oL' bad' fl' up')))
 trivial
theorem Mine.init_s15Pn
 {dp un : Nat} {nm : Str} {fa : Addr} {cd : Value} {l : List Env} {h₀ : Heap} {L : Addr} {m : Str → Option Value} {frs : Mine.Led} {s : Shared} {Q : Flow → Shared → Prop} {R : Result → Shared → Prop}
 {x d : Addr} {n0 : Nat} {sl : Array (Option Value)} {rest : Mine.Led} {lp c : Addr} {ps : List Value} {n : Nat} {q : Int} {t : Tok} {al gr : Bool}  (H : Mine.Here w h₀ L s.heap m ((d, dictOf [] n0) :: rest) frs l p loose mean mg mb Mine.initScope dp un 16)
 (sub2 : ∀ p ∈ frs, p ∈ rest) (hne : ∀ p ∈ rest, p.1 ≠ d) (hx : (x, (⟨.ref 359, some d, .plain, sl⟩ : Obj)) ∈ rest) (e0 : Mine.EntsAre w [] []) (v0 : m "self" = some (.ref x)) (hm : (c, ({ cls := .type "tuple", data := .seq [Value.int q t].toArray } : Obj)) ∈ rest) (v3 : m "bitdepth" = some (.ref c)) (hlp : (lp, listOf ps.toArray n) ∈ rest) (hps : ps ≠ []) (hpl : ps.length ≤ 300) (v1 : m "palette" = some (.ref lp)) (v5 : m "alpha" = some (.bool al)) (v6 : m "greyscale" = some (.bool gr)) (v4 : m "transparent" = some .none) (hret : ∀ tg u rr h' tk' es' n' nw, (q = 1 ∨ q = 2 ∨ q = 4 ∨ q = 8) ∧ al = false ∧ gr = false → tg = q → Mine.CbrPost [q] tg rr nw → Mine.EntsAre w es' [("rescale", rr)] → (∀ p ∈ rest, p ∈ nw) → (∀ p ∈ nw, p.1 ≠ d) → Fr h₀ L h' (fun y => if y = "bitdepth" then some (.int tg u) else m y) → News h₀ L h' ((d, dictOf es' n') :: nw) → Q .next { s with heap := h', toks := tk' }) (hraise : ∀ e a0 h' tk', ¬ ((q = 1 ∨ q = 2 ∨ q = 4 ∨ q = 8) ∧ al = false ∧ gr = false) → Heap.FlyingW h₀ l e (.ref 224) a0 h' → Mine.Up frs h' → R (.error (.ref e)) { s with heap := h', toks := tk' }) :
 wpAny (model rw_ar0036_02.row.prog w) ((Mine.Fa dp un (some []) l).deeper (envOf nm Mine.initScope L fa cd)) (exec (Mine.initAt 15) (envOf nm Mine.initScope L fa cd)) Q (Mine.Out w ((Mine.Fa dp un (some []) l).deeper (envOf nm Mine.initScope L fa cd)) (envOf nm Mine.initScope L fa cd) R) s := by
 obtain ⟨F, X, N, T, Fs, sub, hk, hdp, hun⟩ := H
 (conv => arg 3; arg 1; whnf)
 walk_at "mine lit"
 w_on
 w_strict (
  revert X
  k_fill
  intro X
  
  k_steps)
 all_goals first | exact (Str.ofString "") | exact (0 : Nat) | exact Value.none | skip
 all_goals first | (refine' hret _ _ _ _ _ _ _ _ ?g ?k ?a ?b ?c ?d ?e ?f; (case e => assumption); (case f => assumption); (case b => assumption); (case g => assumption); (case k => assumption); (case a => assumption); (case c => assumption); (case d => assumption)) | (refine' hraise _ _ _ _ ?g ?a ?b; (case a => assumption); (case b => assumption); (case g => first | assumption | trivial))
theorem Mine.k8 : True := by
 k_with "i35 call ref" => ((k_here; (with_reducible show wpAny _ _ (call (Value.ref 402) _) _ _ _); k_dflt (refine' Mine.cbr_Pr ?H ?l ?p ?q ?m ?_; (case H => walk_at "mine here"); (case l => k_mem); (case p => assumption); (case q => assumption); (case m => k_mem)); intro e' a0' h' tk' oL' bad' fl' up'))
 trivial
theorem Mine.init_s15Pr
 {dp un : Nat} {nm : Str} {fa : Addr} {cd : Value} {l : List Env} {h₀ : Heap} {L : Addr} {m : Str → Option Value} {frs : Mine.Led} {s : Shared} {Q : Flow → Shared → Prop} {R : Result → Shared → Prop}
 {x d : Addr} {n0 : Nat} {sl : Array (Option Value)} {rest : Mine.Led} {lp c : Addr} {ps : List Value} {n : Nat} {q : Int} {t : Tok} {al gr : Bool} {ta : Addr} (H : Mine.Here w h₀ L s.heap m ((d, dictOf [] n0) :: rest) frs l p loose mean mg mb Mine.initScope dp un 16)
 (sub2 : ∀ p ∈ frs, p ∈ rest) (hne : ∀ p ∈ rest, p.1 ≠ d) (hx : (x, (⟨.ref 359, some d, .plain, sl⟩ : Obj)) ∈ rest) (e0 : Mine.EntsAre w [] []) (v0 : m "self" = some (.ref x)) (hm : (c, ({ cls := .type "tuple", data := .seq [Value.int q t].toArray } : Obj)) ∈ rest) (v3 : m "bitdepth" = some (.ref c)) (hlp : (lp, listOf ps.toArray n) ∈ rest) (hps : ps ≠ []) (hpl : ps.length ≤ 300) (v1 : m "palette" = some (.ref lp)) (v5 : m "alpha" = some (.bool al)) (v6 : m "greyscale" = some (.bool gr)) (v4 : m "transparent" = some (.ref ta)) (hraise : ∀ e a0 h' tk', True → Heap.FlyingW h₀ l e (.ref 224) a0 h' → Mine.Up frs h' → R (.error (.ref e)) { s with heap := h', toks := tk' }) :
 wpAny (model rw_ar0036_02.row.prog w) ((Mine.Fa dp un (some []) l).deeper (envOf nm Mine.initScope L fa cd)) (exec (Mine.initAt 15) (envOf nm Mine.initScope L fa cd)) Q (Mine.Out w ((Mine.Fa dp un (some []) l).deeper (envOf nm Mine.initScope L fa cd)) (envOf nm Mine.initScope L fa cd) R) s := by
 obtain ⟨F, X, N, T, Fs, sub, hk, hdp, hun⟩ := H
 (conv => arg 3; arg 1; whnf)
 walk_at "mine lit"
 w_on
 w_strict (
  revert X
  k_fill
  intro X
  
  k_steps)
 all_goals first | exact (Str.ofString "") | exact (0 : Nat) | exact Value.none | skip
 all_goals first | (refine' hraise _ _ _ _ ?g ?a ?b; (case a => assumption); (case b => assumption); (case g => first | assumption | trivial))
theorem Mine.k9 : True := by
 k_with "i35 call ref" => ((k_here; (with_reducible show wpAny _ _ (call (Value.ref 402) _) _ _ _); k_dflt (refine' Mine.cbr_Pi ?H ?l ?p ?q ?m ?_; (case H => walk_at "mine here"); (case l => k_mem); (case p => assumption); (case q => assumption); (case m => k_mem)); intro e' a0' h' tk' oL' bad' fl' up'))
 trivial
theorem Mine.init_s15Pi
 {dp un : Nat} {nm : Str} {fa : Addr} {cd : Value} {l : List Env} {h₀ : Heap} {L : Addr} {m : Str → Option Value} {frs : Mine.Led} {s : Shared} {Q : Flow → Shared → Prop} {R : Result → Shared → Prop}
 {x d : Addr} {n0 : Nat} {sl : Array (Option Value)} {rest : Mine.Led} {lp c : Addr} {ps : List Value} {n : Nat} {q : Int} {t : Tok} {al gr : Bool} {tn : Int} {tt : Tok} (H : Mine.Here w h₀ L s.heap m ((d, dictOf [] n0) :: rest) frs l p loose mean mg mb Mine.initScope dp un 16)
 (sub2 : ∀ p ∈ frs, p ∈ rest) (hne : ∀ p ∈ rest, p.1 ≠ d) (hx : (x, (⟨.ref 359, some d, .plain, sl⟩ : Obj)) ∈ rest) (e0 : Mine.EntsAre w [] []) (v0 : m "self" = some (.ref x)) (hm : (c, ({ cls := .type "tuple", data := .seq [Value.int q t].toArray } : Obj)) ∈ rest) (v3 : m "bitdepth" = some (.ref c)) (hlp : (lp, listOf ps.toArray n) ∈ rest) (hps : ps ≠ []) (hpl : ps.length ≤ 300) (v1 : m "palette" = some (.ref lp)) (v5 : m "alpha" = some (.bool al)) (v6 : m "greyscale" = some (.bool gr)) (v4 : m "transparent" = some (.int tn tt)) (hraise : ∀ e a0 h' tk', True → Heap.FlyingW h₀ l e (.ref 224) a0 h' → Mine.Up frs h' → R (.error (.ref e)) { s with heap := h', toks := tk' }) :
 wpAny (model rw_ar0036_02.row.prog w) ((Mine.Fa dp un (some []) l).deeper (envOf nm Mine.initScope L fa cd)) (exec (Mine.initAt 15) (envOf nm Mine.initScope L fa cd)) Q (Mine.Out w ((Mine.Fa dp un (some []) l).deeper (envOf nm Mine.initScope L fa cd)) (envOf nm Mine.initScope L fa cd) R) s := by
 obtain ⟨F, X, N, T, Fs, sub, hk, hdp, hun⟩ := H
 (conv => arg 3; arg 1; whnf)
 walk_at "mine lit"
 w_on
 w_strict (
  revert X
  k_fill
  intro X
  
  k_steps)
 all_goals first | exact (Str.ofString "") | exact (0 : Nat) | exact Value.none | skip
 all_goals first | (refine' hraise _ _ _ _ ?g ?a ?b; (case a => assumption); (case b => assumption); (case g => first | assumption | trivial))
end
section
variable {w : World} {p : Program} {loose : List Str} {mean : ExcName → Option Value} {mg mb : Str → Option Value}
variable {dp un : Nat} {nm : Str} {fa : Addr} {cd : Value} {l : List Env} {h₀ : Heap} {L : Addr} {m : Str → Option Value} {news frs : Mine.Led} {s : Shared} {Q : Flow → Shared → Prop} {R : Result → Shared → Prop}
local macro_rules | `(tactic| walk_at $s:str) => Mine.hand "i36 " s
local macro_rules | `(tactic| walk_at "p") => Mine.pad
theorem Mine.k10 : True := by
 k_with "i36 call builtin:len" => ((k_here; (with_reducible show wpAny _ _ (call (Value.builtin "len") [Value.ref _]) _ _ _); k_dflt (refine' Mine.len_lst ?N49q ?m49q ?l49q ?_; (case N49q => k_asm); (case m49q => k_mem); (case l49q => first | omega | exact Nat.le_of_ble_eq_true rfl); k_whole)))
 k_with "i36 call type:list" => ((k_here; (with_reducible show wpAny _ _ (call (Value.type _) [Value.ref _]) _ _ _); k_dflt (refine' Mine.list_copyA ?F50q ?N50q ?m50q ?l50q ?_; (case F50q => k_asm); (case N50q => k_asm); (case m50q => k_mem); (case l50q => first | omega | exact Nat.le_of_ble_eq_true rfl); k_whole); intro D'50q c'50q h'50q F'50q N'50q l150q; (try k_lt l150q)))
 trivial
theorem Mine.cp_s0n
  (H : Mine.Here w h₀ L s.heap m news frs l p loose mean mg mb (Mine.fnScope 12) dp un 6)
 (v1 : m "palette" = some .none) (hret : ∀ h' tk' news', (∀ p ∈ news, p ∈ news') → (∀ p ∈ news', p ∈ news ∨ ∀ r ∈ news, r.1 < p.1) → Fr h₀ L h' m → News h₀ L h' news' → Q (.ret .none) { s with heap := h', toks := tk' }) :
 wpAny (model rw_ar0036_02.row.prog w) ((Mine.Fa dp un (some []) l).deeper (envOf nm (Mine.fnScope 12) L fa cd)) (exec (Mine.fnAt 12 0) (envOf nm (Mine.fnScope 12) L fa cd)) Q (Mine.Out w ((Mine.Fa dp un (some []) l).deeper (envOf nm (Mine.fnScope 12) L fa cd)) (envOf nm (Mine.fnScope 12) L fa cd) R) s := by
 obtain ⟨F, X, N, T, Fs, sub, hk, hdp, hun⟩ := H
 (conv => arg 3; arg 1; whnf)
 walk_at "mine lit"
 w_on
 w_strict (
  revert X
  k_fill
  intro X
  
  k_steps)
 all_goals first | exact (Str.ofString "") | exact (0 : Nat) | exact Value.none | skip
 all_goals ((try dsimp only); refine' hret _ _ _ ?y1 ?y2 ?y3 ?y4; (case y3 => assumption); (case y4 => assumption); (case y1 => walk_at "mine sub2"); (case y2 => walk_at "mine fresh"))
theorem Mine.cp_s0r
 {lp : Addr} (H : Mine.Here w h₀ L s.heap m news frs l p loose mean mg mb (Mine.fnScope 12) dp un 6)
 (v1 : m "palette" = some (.ref lp)) (hret : ∀  h' tk' news',  (∀ p ∈ news, p ∈ news') → (∀ p ∈ news', p ∈ news ∨ ∀ r ∈ news, r.1 < p.1) → Fr h₀ L h' m → News h₀ L h' news' → Q .next { s with heap := h', toks := tk' }) :
 wpAny (model rw_ar0036_02.row.prog w) ((Mine.Fa dp un (some []) l).deeper (envOf nm (Mine.fnScope 12) L fa cd)) (exec (Mine.fnAt 12 0) (envOf nm (Mine.fnScope 12) L fa cd)) Q (Mine.Out w ((Mine.Fa dp un (some []) l).deeper (envOf nm (Mine.fnScope 12) L fa cd)) (envOf nm (Mine.fnScope 12) L fa cd) R) s := by
 obtain ⟨F, X, N, T, Fs, sub, hk, hdp, hun⟩ := H
 (conv => arg 3; arg 1; whnf)
 walk_at "mine lit"
 w_on
 w_strict (
  revert X
  k_fill
  intro X
  
  k_steps)
 all_goals first | exact (Str.ofString "") | exact (0 : Nat) | exact Value.none | skip
 all_goals ((try dsimp only); refine' hret _ _ _ ?y1 ?y2 ?y3 ?y4; (case y3 => assumption); (case y4 => assumption); (case y1 => walk_at "mine sub2"); (case y2 => walk_at "mine fresh"))
theorem Mine.cp_s1
 {lp : Addr} {ps : List Value} {n : Nat} (H : Mine.Here w h₀ L s.heap m news frs l p loose mean mg mb (Mine.fnScope 12) dp un 6)
 (hlp : (lp, listOf ps.toArray n) ∈ news) (hpl : ps.length ≤ 300) (v1 : m "palette" = some (.ref lp)) (hret : ∀ l2 k h' tk', (∀ p ∈ news, p.1 < l2) → Fr h₀ L h' (fun y => if y = "p" then some (.ref l2) else m y) → News h₀ L h' ((l2, listOf ps.toArray k) :: news) → Q .next { s with heap := h', toks := tk' }) :
 wpAny (model rw_ar0036_02.row.prog w) ((Mine.Fa dp un (some []) l).deeper (envOf nm (Mine.fnScope 12) L fa cd)) (exec (Mine.fnAt 12 1) (envOf nm (Mine.fnScope 12) L fa cd)) Q (Mine.Out w ((Mine.Fa dp un (some []) l).deeper (envOf nm (Mine.fnScope 12) L fa cd)) (envOf nm (Mine.fnScope 12) L fa cd) R) s := by
 obtain ⟨F, X, N, T, Fs, sub, hk, hdp, hun⟩ := H
 (conv => arg 3; arg 1; whnf)
 walk_at "mine lit"
 w_on
 w_strict (
  revert X
  k_fill
  intro X
  
  k_steps)
 all_goals first | exact (Str.ofString "") | exact (0 : Nat) | exact Value.none | skip
 all_goals (refine' hret _ _ _ _ ?y1 ?y2 ?y3; (case y2 => assumption); (case y3 => assumption); (case y1 => walk_at "mine lts"))
theorem Mine.cp_s2
 {lp : Addr} {ps : List Value} {n : Nat} (H : Mine.Here w h₀ L s.heap m news frs l p loose mean mg mb (Mine.fnScope 12) dp un 8)
 (hlp : (lp, listOf ps.toArray n) ∈ news) (hpl : ps.length ≤ 300) (v1 : m "p" = some (.ref lp)) (hret : ∀  h' tk' news', 0 < ps.length → ps.length ≤ 256 → (∀ p ∈ news, p ∈ news') → (∀ p ∈ news', p ∈ news ∨ ∀ r ∈ news, r.1 < p.1) → Fr h₀ L h' m → News h₀ L h' news' → Q .next { s with heap := h', toks := tk' }) (hraise : ∀ e a0 h' tk', ¬ (0 < ps.length ∧ ps.length ≤ 256) → Heap.FlyingW h₀ l e (.ref 224) a0 h' → Mine.Up frs h' → R (.error (.ref e)) { s with heap := h', toks := tk' }) :
 wpAny (model rw_ar0036_02.row.prog w) ((Mine.Fa dp un (some []) l).deeper (envOf nm (Mine.fnScope 12) L fa cd)) (exec (Mine.fnAt 12 2) (envOf nm (Mine.fnScope 12) L fa cd)) Q (Mine.Out w ((Mine.Fa dp un (some []) l).deeper (envOf nm (Mine.fnScope 12) L fa cd)) (envOf nm (Mine.fnScope 12) L fa cd) R) s := by
 obtain ⟨F, X, N, T, Fs, sub, hk, hdp, hun⟩ := H
 (conv => arg 3; arg 1; whnf)
 walk_at "mine lit"
 w_on
 w_strict (
  revert X
  k_fill
  intro X
  
  k_steps)
 all_goals first | exact (Str.ofString "") | exact (0 : Nat) | exact Value.none | skip
 all_goals first | ((try dsimp only); refine' hret _ _ _ ?y0 ?y5 ?y1 ?y2 ?y3 ?y4; (case y3 => assumption); (case y4 => assumption); (case y1 => walk_at "mine sub2"); (case y2 => walk_at "mine fresh"); (case y5 => first | assumption | trivial | omega | (clear hret hraise; simp_all; done) | (clear hret hraise; simp_all; omega)); (case y0 => first | assumption | trivial | omega | (clear hret hraise; simp_all; done) | (clear hret hraise; simp_all; omega))) | (refine' hraise _ _ _ _ ?y0 ?y1 ?y2; (case y1 => assumption); (case y2 => assumption); (case y0 => first | assumption | trivial | omega | (clear hret hraise; simp_all; done) | (clear hret hraise; simp_all; omega))) | (exfalso; clear hret hraise; simp_all; done) | (exfalso; clear hret hraise; simp_all; omega)
theorem Mine.cp_s3
  (H : Mine.Here w h₀ L s.heap m news frs l p loose mean mg mb (Mine.fnScope 12) dp un 6)
 (hret : ∀  h' tk' news',  (∀ p ∈ news, p ∈ news') → (∀ p ∈ news', p ∈ news ∨ ∀ r ∈ news, r.1 < p.1) → Fr h₀ L h' (fun y => if y = "seen_triple" then some (Value.bool false) else m y) → News h₀ L h' news' → Q .next { s with heap := h', toks := tk' }) :
 wpAny (model rw_ar0036_02.row.prog w) ((Mine.Fa dp un (some []) l).deeper (envOf nm (Mine.fnScope 12) L fa cd)) (exec (Mine.fnAt 12 3) (envOf nm (Mine.fnScope 12) L fa cd)) Q (Mine.Out w ((Mine.Fa dp un (some []) l).deeper (envOf nm (Mine.fnScope 12) L fa cd)) (envOf nm (Mine.fnScope 12) L fa cd) R) s := by
 obtain ⟨F, X, N, T, Fs, sub, hk, hdp, hun⟩ := H
 (conv => arg 3; arg 1; whnf)
 walk_at "mine lit"
 w_on
 w_strict (
  revert X
  k_fill
  intro X
  
  k_steps)
 all_goals first | exact (Str.ofString "") | exact (0 : Nat) | exact Value.none | skip
 all_goals ((try dsimp only); refine' hret _ _ _ ?y1 ?y2 ?y3 ?y4; (case y3 => assumption); (case y4 => assumption); (case y1 => walk_at "mine sub2"); (case y2 => walk_at "mine fresh"))
theorem Mine.cp_s5
 {lp : Addr} (H : Mine.Here w h₀ L s.heap m news frs l p loose mean mg mb (Mine.fnScope 12) dp un 6)
 (v1 : m "p" = some (.ref lp)) (hret : ∀ h' tk', Fr h₀ L h' m → News h₀ L h' news → Q (.ret (.ref lp)) { s with heap := h', toks := tk' }) :
 wpAny (model rw_ar0036_02.row.prog w) ((Mine.Fa dp un (some []) l).deeper (envOf nm (Mine.fnScope 12) L fa cd)) (exec (Mine.fnAt 12 5) (envOf nm (Mine.fnScope 12) L fa cd)) Q (Mine.Out w ((Mine.Fa dp un (some []) l).deeper (envOf nm (Mine.fnScope 12) L fa cd)) (envOf nm (Mine.fnScope 12) L fa cd) R) s := by
 obtain ⟨F, X, N, T, Fs, sub, hk, hdp, hun⟩ := H
 (conv => arg 3; arg 1; whnf)
 walk_at "mine lit"
 w_on
 w_strict (
  revert X
  k_fill
  intro X
  
  k_steps)
 all_goals first | exact (Str.ofString "") | exact (0 : Nat) | exact Value.none | skip
 all_goals ((try dsimp only); exact hret _ _ (by assumption) (by assumption))
end
section
namespace Mine
theorem loop_hit {p : Nat → Bool} {x : Nat} {t : List Nat} (hx : p x = false) : ∀ {l acc : List Nat}, l.all p = true → List.span.loop p (l ++ x :: t) acc = (acc.reverse ++ l, x :: t)
  | [], acc, _ => by simp [List.span.loop, hx]
  | a :: l, acc, h => by
    simp only [List.all_cons, Bool.and_eq_true] at h
    simp [List.span.loop, h.1, loop_hit hx h.2]
theorem loop_all {p : Nat → Bool} : ∀ {l acc : List Nat}, l.all p = true → List.span.loop p l acc = (acc.reverse ++ l, [])
  | [], acc, _ => by simp [List.span.loop]
  | a :: l, acc, h => by
    simp only [List.all_cons, Bool.and_eq_true] at h
    simp [List.span.loop, h.1, loop_all h.2]
theorem span_hit {l t : List Nat} (h : l.all (· != 37) = true) : (l ++ 37 :: t).span (· != 37) = (l, 37 :: t) := loop_hit (by rfl) h
theorem span_all {l : List Nat} (h : l.all (· != 37) = true) : l.span (· != 37) = (l, []) := loop_all h
theorem after_r {β : Type} {M : Model} {A : Around} {E : Value → Shared → Prop} {s : Shared} {l : List Nat} {p : β} {w : Builtin.Str.Writer} {r r' : List Nat} {f : Nat → β × Builtin.Str.Writer × List Nat → Sem (ForInStep (β × Builtin.Str.Writer × List Nat))} {Q : β × Builtin.Str.Writer × List Nat → Shared → Prop}
    (er : r = r') (h : wpAny M A (forIn l (p, w, r') f) Q E s) : wpAny M A (forIn l (p, w, r) f) Q E s := er ▸ h
theorem pct_i {prog : Program} {w : World} {A : Around} {Q : Value → Shared → Prop} {E : Value → Shared → Prop} {s : Shared} {n : Int} {t u : Tok} {X : PySem.Str} (p0 s0 : Nat) (pre suf : List Nat)
    (hX : X = Str.mk ((p0 :: pre) ++ 37 :: 100 :: (s0 :: suf)).toArray) (hp : (p0 :: pre).all (· != 37) = true) (hs : (s0 :: suf).all (· != 37) = true) (hl : pre.length ≤ 200) (hl2 : suf.length ≤ 200)
    (h0 : 0 ≤ n) (h1 : n < 10 ^ 10) (h : ∀ x t' k, Q (.str x t') { s with toks := k }) :
    wpAny (model prog w) A (binaryOp Operator.Mod (.str X t) (.int n u)) Q E s := by
  refine' KPc.mod_int (T := fun i => Str.mk (p0 :: pre).toArray ++ Str.ofString (toString i) ++ Str.mk (s0 :: suf).toArray) hX h0 h1 ?kpcm (h _)
  intros
  apply KPc.meets_of
  intro _ _ _ _ _ _ _
  rw [KPc.entry_is]
  unfold Builtin.Str.percentFormat
  refine wpAny_bind (wpAny_isInstance (typeIs_int _ _ _) F.sub_int_tuple ?_)
  refine wpAny_bind (wpAny_of_eq (a := none) rfl ?_)
  refine wpAny_bind (wpAny_of_eq (KPc.fills _ _) ?_)
  kpc_if
  refine wpAny_bind (wpAny_pure ?_)
  refine wpAny_bind ?_
  rw [KPc.range_list]
  have hn : (Str.mk ((p0 :: pre) ++ 37 :: 100 :: (s0 :: suf)).toArray).length = (pre.length + suf.length) + 4 := by
    show ((p0 :: pre) ++ 37 :: 100 :: (s0 :: suf)).toArray.size = _
    simp; omega
  rw [hn]
  refine KPc.start ?_
  intro w' g'
  have e1 := span_hit (l := p0 :: pre) (t := 100 :: s0 :: suf) hp
  have e2 := span_all (l := s0 :: suf) hs
  have l1 : (Str.mk (p0 :: pre).toArray).length = pre.length + 1 := by show (p0 :: pre).toArray.size = _; simp
  have l2 : (Str.mk (s0 :: suf).toArray).length = suf.length + 1 := by show (s0 :: suf).toArray.size = _; simp
  refine KPc.turn ?_
  kpc_check
  kpc_if
  refine wpAny_ite (KPc.ite_yes (congrArg (fun z => !(Prod.fst z).isEmpty) e1) ?_)
  refine wpAny_pure ?_
  refine KPc.after_add0 (y := Str.mk (p0 :: pre).toArray) g' (congrArg (fun z => Str.mk (Prod.fst z).toArray) e1) (KPc.obj_none ?_) ?_
  · refine if_neg ?_
    have e3 := congrArg (fun z => (Prod.fst z).length) e1
    intro hh
    have e4 := (beq_iff_eq.mp hh)
    have e5 : (p0 :: pre).length = pre.length + suf.length + 4 := e3.symm.trans e4
    simp only [List.length_cons] at e5
    omega
  intro w1 g1
  refine after_r (congrArg Prod.snd e1) ?_
  refine KPc.turn ?_
  refine wpAny_ite (KPc.ite_no (KPc.short_good g1 (by omega)) ?_)
  refine wpAny_bind ?_
  refine wpAny_holding ?_
  kpc_conv
  refine wpAny_pure ?_
  refine wpAny_pure ?_
  refine KPc.after_int (c := { type := 100 }) (o := none) (r := s0 :: suf) g1 rfl (Or.inl rfl) rfl (by with_reducible assumption) (by with_reducible assumption) rfl rfl ?_
  intro w2 g2
  refine KPc.turn ?_
  refine wpAny_ite (KPc.ite_no (KPc.short_good g2 (by omega)) ?_)
  kpc_if
  refine wpAny_ite (KPc.ite_yes (congrArg (fun z => !(Prod.fst z).isEmpty) e2) ?_)
  refine wpAny_pure ?_
  refine KPc.after_add (y := Str.mk (s0 :: suf).toArray) g2 (congrArg (fun z => Str.mk (Prod.fst z).toArray) e2) (KPc.obj_none ?_) ?_
  · refine if_neg ?_
    have e3 := congrArg (fun z => (Prod.fst z).length) e2
    intro hh
    have e4 := (beq_iff_eq.mp hh)
    have e5 : (s0 :: suf).length = pre.length + suf.length + 4 := e3.symm.trans e4
    simp only [List.length_cons] at e5
    omega
  intro w3 g3
  refine after_r (congrArg Prod.snd e2) ?_
  refine KPc.turn ?_
  refine wpAny_ite (KPc.ite_no (KPc.short_good g3 (by omega)) ?_)
  kpc_if
  refine wpAny_pure ?_
  kpc_if
  refine KPc.finish_ok g3 (by omega) rfl ?_
  assumption
theorem pct_s {prog : Program} {w : World} {A : Around} {Q : Value → Shared → Prop} {E : Value → Shared → Prop} {s : Shared} {y : PySem.Str} {t u : Tok} {X : PySem.Str} (s0 : Nat) (suf : List Nat)
    (hX : X = Str.mk (37 :: 115 :: (s0 :: suf)).toArray) (hs : (s0 :: suf).all (· != 37) = true) (hl2 : suf.length ≤ 200)
    (hy : y.length ≤ 1000000) (h : ∀ x t' k, Q (.str x t') { s with toks := k }) :
    wpAny (model prog w) A (binaryOp Operator.Mod (.str X t) (.str y u)) Q E s := by
  refine' KPc.mod_str (T := fun z => z ++ Str.mk (s0 :: suf).toArray) hX hy ?kpcm (h _)
  intros
  apply KPc.meets_of
  intro _ _ _ _ _ _ _
  rw [KPc.entry_is_s]
  unfold Builtin.Str.percentFormat
  refine wpAny_bind (wpAny_isInstance (typeIs_str _ _ _) F.sub_str_tuple ?_)
  refine wpAny_bind (wpAny_of_eq (a := some _) rfl ?_)
  refine wpAny_bind (KPc.wp_fills_str ?_)
  intro _
  kpc_if
  refine wpAny_bind (wpAny_pure ?_)
  refine wpAny_bind ?_
  rw [KPc.range_list]
  have hn : (Str.mk (37 :: 115 :: (s0 :: suf)).toArray).length = suf.length + 3 := by
    show (37 :: 115 :: (s0 :: suf)).toArray.size = _
    simp
  rw [hn]
  have e2 := span_all (l := s0 :: suf) hs
  have l2 : (Str.mk (s0 :: suf).toArray).length = suf.length + 1 := by show (s0 :: suf).toArray.size = _; simp
  refine KPc.start ?_
  intro w1 g1
  refine KPc.turn ?_
  kpc_check
  refine wpAny_bind ?_
  refine wpAny_holding ?_
  kpc_conv
  refine wpAny_pure ?_
  refine wpAny_pure ?_
  refine KPc.after_str0 (r := s0 :: suf) g1 (by with_reducible assumption) (by kpc_obj) ?_
  intro w2 g2
  refine KPc.turn ?_
  refine wpAny_ite (KPc.ite_no (KPc.short_good g2 (by omega)) ?_)
  kpc_if
  refine wpAny_ite (KPc.ite_yes (congrArg (fun z => !(Prod.fst z).isEmpty) e2) ?_)
  refine wpAny_pure ?_
  refine KPc.after_add (y := Str.mk (s0 :: suf).toArray) g2 (congrArg (fun z => Str.mk (Prod.fst z).toArray) e2) (KPc.obj_none ?_) ?_
  · refine if_neg ?_
    have e3 := congrArg (fun z => (Prod.fst z).length) e2
    intro hh
    have e4 := (beq_iff_eq.mp hh)
    have e5 : (s0 :: suf).length = suf.length + 3 := e3.symm.trans e4
    simp only [List.length_cons] at e5
    omega
  intro w3 g3
  refine after_r (congrArg Prod.snd e2) ?_
  refine KPc.turn ?_
  refine wpAny_ite (KPc.ite_no (KPc.short_good g3 (by omega)) ?_)
  kpc_if
  refine wpAny_pure ?_
  kpc_if
  refine KPc.finish_ok g3 (by omega) rfl ?_
  assumption
theorem pctI0 {prog : Program} {w : World} {A : Around} {Q : Value → Shared → Prop} {E : Value → Shared → Prop} {s : Shared} {n : Int} {t u : Tok} (h0 : 0 ≤ n) (h1 : n < 10 ^ 10) (h : ∀ x t' k, Q (.str x t') { s with toks := k }) :
    wpAny (model prog w) A (binaryOp Operator.Mod (.str (Str.ofString "palette entry %d: entries must be 3- or 4-tuples.") t) (.int n u)) Q E s :=
  pct_i 112 58 (Str.ofString "alette entry ").cps.toList (Str.ofString " entries must be 3- or 4-tuples.").cps.toList (by decide +kernel) (by decide +kernel) (by decide +kernel) (by decide +kernel) (by decide +kernel) h0 h1 h
theorem pctI1 {prog : Program} {w : World} {A : Around} {Q : Value → Shared → Prop} {E : Value → Shared → Prop} {s : Shared} {n : Int} {t u : Tok} (h0 : 0 ≤ n) (h1 : n < 10 ^ 10) (h : ∀ x t' k, Q (.str x t') { s with toks := k }) :
    wpAny (model prog w) A (binaryOp Operator.Mod (.str (Str.ofString "palette entry %d: all 4-tuples must precede all 3-tuples") t) (.int n u)) Q E s :=
  pct_i 112 58 (Str.ofString "alette entry ").cps.toList (Str.ofString " all 4-tuples must precede all 3-tuples").cps.toList (by decide +kernel) (by decide +kernel) (by decide +kernel) (by decide +kernel) (by decide +kernel) h0 h1 h
theorem pctI2 {prog : Program} {w : World} {A : Around} {Q : Value → Shared → Prop} {E : Value → Shared → Prop} {s : Shared} {n : Int} {t u : Tok} (h0 : 0 ≤ n) (h1 : n < 10 ^ 10) (h : ∀ x t' k, Q (.str x t') { s with toks := k }) :
    wpAny (model prog w) A (binaryOp Operator.Mod (.str (Str.ofString "palette entry %d: values must be integer: 0 <= x <= 255") t) (.int n u)) Q E s :=
  pct_i 112 58 (Str.ofString "alette entry ").cps.toList (Str.ofString " values must be integer: 0 <= x <= 255").cps.toList (by decide +kernel) (by decide +kernel) (by decide +kernel) (by decide +kernel) (by decide +kernel) h0 h1 h
theorem pctS0 {prog : Program} {w : World} {A : Around} {Q : Value → Shared → Prop} {E : Value → Shared → Prop} {s : Shared} {y : PySem.Str} {t u : Tok} (hy : y.length ≤ 1000000) (h : ∀ x t' k, Q (.str x t') { s with toks := k }) :
    wpAny (model prog w) A (binaryOp Operator.Mod (.str (Str.ofString "%s for greyscale must be 1-tuple") t) (.str y u)) Q E s :=
  pct_s 32 (Str.ofString "for greyscale must be 1-tuple").cps.toList (by decide +kernel) (by decide +kernel) (by decide +kernel) hy h
theorem pctS1 {prog : Program} {w : World} {A : Around} {Q : Value → Shared → Prop} {E : Value → Shared → Prop} {s : Shared} {y : PySem.Str} {t u : Tok} (hy : y.length ≤ 1000000) (h : ∀ x t' k, Q (.str x t') { s with toks := k }) :
    wpAny (model prog w) A (binaryOp Operator.Mod (.str (Str.ofString "%s colour for greyscale must be integer") t) (.str y u)) Q E s :=
  pct_s 32 (Str.ofString "colour for greyscale must be integer").cps.toList (by decide +kernel) (by decide +kernel) (by decide +kernel) hy h
theorem pctS2 {prog : Program} {w : World} {A : Around} {Q : Value → Shared → Prop} {E : Value → Shared → Prop} {s : Shared} {y : PySem.Str} {t u : Tok} (hy : y.length ≤ 1000000) (h : ∀ x t' k, Q (.str x t') { s with toks := k }) :
    wpAny (model prog w) A (binaryOp Operator.Mod (.str (Str.ofString "%s colour must be a triple of integers") t) (.str y u)) Q E s :=
  pct_s 32 (Str.ofString "colour must be a triple of integers").cps.toList (by decide +kernel) (by decide +kernel) (by decide +kernel) hy h
end Mine
end
section
variable {w : World} {p : Program} {loose : List Str} {mean : ExcName → Option Value} {mg mb : Str → Option Value}
variable {dp un : Nat} {nm : Str} {fa : Addr} {cd : Value} {l : List Env} {h₀ : Heap} {L : Addr} {m : Str → Option Value} {news frs : Mine.Led} {s : Shared} {Q : Flow → Shared → Prop} {R : Result → Shared → Prop}
local macro_rules | `(tactic| walk_at $s:str) => Mine.hand "i38 " s
theorem Mine.k11 : True := by
 k_with "i38 call builtin:len" => ((k_here; (with_reducible show wpAny _ _ (call (Value.builtin "len") [Value.ref _]) _ _ _); k_dflt (refine' Mine.len_lst ?N51q ?m51q ?l51q ?_; (case N51q => k_asm); (case m51q => k_mem); (case l51q => first | omega | exact Nat.le_of_ble_eq_true rfl); k_whole)))
 k_with "i38 call type:list" => ((k_here; (with_reducible show wpAny _ _ (call (Value.type _) [Value.ref _]) _ _ _); k_dflt (refine' Mine.list_copyA ?F52q ?N52q ?m52q ?l52q ?_; (case F52q => k_asm); (case N52q => k_asm); (case m52q => k_mem); (case l52q => first | omega | exact Nat.le_of_ble_eq_true rfl); k_whole); intro D'52q c'52q h'52q F'52q N'52q l152q; (try k_lt l152q)))
 k_with "i38 binaryOp Mod str int" => ((k_here; (with_reducible first | refine Mine.pctI0 ?_ ?_ ?_ | refine Mine.pctI1 ?_ ?_ ?_ | refine Mine.pctI2 ?_ ?_ ?_); (k_dflt kpc_fact); (k_dflt kpc_fact); intro x'53q t'53q k'53q))
 trivial
theorem Mine.cpb_x
 {q i : Int} {u ui : Tok} (H : Mine.Here w h₀ L s.heap m news frs l p loose mean mg mb (Mine.fnScope 12) dp un 8)
 (v1 : m "x" = some (.int q u)) (v2 : m "i" = some (.int i ui)) (hi0 : 0 ≤ i) (hi1 : i ≤ 300) (hret : ∀  h' tk' news', 0 ≤ q → q ≤ 255 → (∀ p ∈ news, p ∈ news') → (∀ p ∈ news', p ∈ news ∨ ∀ r ∈ news, r.1 < p.1) → Fr h₀ L h' m → News h₀ L h' news' → Q .next { s with heap := h', toks := tk' }) (hraise : ∀ e a0 h' tk', ¬ (0 ≤ q ∧ q ≤ 255) → Heap.FlyingW h₀ l e (.ref 224) a0 h' → Mine.Up frs h' → R (.error (.ref e)) { s with heap := h', toks := tk' }) :
 wpAny (model rw_ar0036_02.row.prog w) ((Mine.Fa dp un (some []) l).deeper (envOf nm (Mine.fnScope 12) L fa cd)) (exec (Mine.fnLoop2 12 4 3 0) (envOf nm (Mine.fnScope 12) L fa cd)) Q (Mine.Out w ((Mine.Fa dp un (some []) l).deeper (envOf nm (Mine.fnScope 12) L fa cd)) (envOf nm (Mine.fnScope 12) L fa cd) R) s := by
 obtain ⟨F, X, N, T, Fs, sub, hk, hdp, hun⟩ := H
 (conv => arg 3; arg 1; whnf)
 walk_at "mine lit"
 w_on
 w_strict (
  revert X
  k_fill
  intro X
  
  k_steps)
 all_goals first | exact (Str.ofString "") | exact (0 : Nat) | exact Value.none | skip
 all_goals first | ((try dsimp only); refine' hret _ _ _ ?y0 ?y5 ?y1 ?y2 ?y3 ?y4; (case y3 => assumption); (case y4 => assumption); (case y1 => walk_at "mine sub2"); (case y2 => walk_at "mine fresh"); (case y5 => first | assumption | trivial | omega | (clear hret hraise; simp_all; done) | (clear hret hraise; simp_all; omega)); (case y0 => first | assumption | trivial | omega | (clear hret hraise; simp_all; done) | (clear hret hraise; simp_all; omega))) | (refine' hraise _ _ _ _ ?y0 ?y1 ?y2; (case y1 => assumption); (case y2 => assumption); (case y0 => first | assumption | trivial | omega | (clear hret hraise; simp_all; done) | (clear hret hraise; simp_all; omega))) | (exfalso; clear hret hraise; simp_all; done) | (exfalso; clear hret hraise; simp_all; omega)
theorem Mine.cpb_0
 {ta : Addr} {vs : List Value} {i : Int} {ui : Tok} (H : Mine.Here w h₀ L s.heap m news frs l p loose mean mg mb (Mine.fnScope 12) dp un 8)
 (hm : (ta, ({ cls := .type "tuple", data := .seq vs.toArray } : Obj)) ∈ news) (hvl : vs.length ≤ 8) (v1 : m "t" = some (.ref ta)) (v2 : m "i" = some (.int i ui)) (hi0 : 0 ≤ i) (hi1 : i ≤ 300) (hret : ∀  h' tk' news', (vs.length = 3 ∨ vs.length = 4) → (∀ p ∈ news, p ∈ news') → (∀ p ∈ news', p ∈ news ∨ ∀ r ∈ news, r.1 < p.1) → Fr h₀ L h' m → News h₀ L h' news' → Q .next { s with heap := h', toks := tk' }) (hraise : ∀ e a0 h' tk', ¬ (vs.length = 3 ∨ vs.length = 4) → Heap.FlyingW h₀ l e (.ref 224) a0 h' → Mine.Up frs h' → R (.error (.ref e)) { s with heap := h', toks := tk' }) :
 wpAny (model rw_ar0036_02.row.prog w) ((Mine.Fa dp un (some []) l).deeper (envOf nm (Mine.fnScope 12) L fa cd)) (exec (Mine.fnLoop 12 4 0) (envOf nm (Mine.fnScope 12) L fa cd)) Q (Mine.Out w ((Mine.Fa dp un (some []) l).deeper (envOf nm (Mine.fnScope 12) L fa cd)) (envOf nm (Mine.fnScope 12) L fa cd) R) s := by
 obtain ⟨F, X, N, T, Fs, sub, hk, hdp, hun⟩ := H
 (conv => arg 3; arg 1; whnf)
 walk_at "mine lit"
 w_on
 w_strict (
  revert X
  k_fill
  intro X
  
  k_steps)
 all_goals first | exact (Str.ofString "") | exact (0 : Nat) | exact Value.none | skip
 all_goals first | ((try dsimp only); refine' hret _ _ _ ?y0 ?y1 ?y2 ?y3 ?y4; (case y3 => assumption); (case y4 => assumption); (case y1 => walk_at "mine sub2"); (case y2 => walk_at "mine fresh"); (case y0 => first | assumption | trivial | omega | (clear hret hraise; simp_all; done) | (clear hret hraise; simp_all; omega))) | (refine' hraise _ _ _ _ ?y0 ?y1 ?y2; (case y1 => assumption); (case y2 => assumption); (case y0 => first | assumption | trivial | omega | (clear hret hraise; simp_all; done) | (clear hret hraise; simp_all; omega))) | (exfalso; clear hret hraise; simp_all; done) | (exfalso; clear hret hraise; simp_all; omega)
theorem Mine.cpb_1
 {ta : Addr} {vs : List Value} (H : Mine.Here w h₀ L s.heap m news frs l p loose mean mg mb (Mine.fnScope 12) dp un 8)
 (hm : (ta, ({ cls := .type "tuple", data := .seq vs.toArray } : Obj)) ∈ news) (hvl : vs.length ≤ 8) (v1 : m "t" = some (.ref ta)) (hret : ∀  h' tk' news', vs.length = 3 → (∀ p ∈ news, p ∈ news') → (∀ p ∈ news', p ∈ news ∨ ∀ r ∈ news, r.1 < p.1) → Fr h₀ L h' (fun y => if y = "seen_triple" then some (Value.bool true) else m y) → News h₀ L h' news' → Q .next { s with heap := h', toks := tk' }) (hret2 : ∀  h' tk' news', vs.length ≠ 3 → (∀ p ∈ news, p ∈ news') → (∀ p ∈ news', p ∈ news ∨ ∀ r ∈ news, r.1 < p.1) → Fr h₀ L h' m → News h₀ L h' news' → Q .next { s with heap := h', toks := tk' }) :
 wpAny (model rw_ar0036_02.row.prog w) ((Mine.Fa dp un (some []) l).deeper (envOf nm (Mine.fnScope 12) L fa cd)) (exec (Mine.fnLoop 12 4 1) (envOf nm (Mine.fnScope 12) L fa cd)) Q (Mine.Out w ((Mine.Fa dp un (some []) l).deeper (envOf nm (Mine.fnScope 12) L fa cd)) (envOf nm (Mine.fnScope 12) L fa cd) R) s := by
 obtain ⟨F, X, N, T, Fs, sub, hk, hdp, hun⟩ := H
 (conv => arg 3; arg 1; whnf)
 walk_at "mine lit"
 w_on
 w_strict (
  revert X
  k_fill
  intro X
  
  k_steps)
 all_goals first | exact (Str.ofString "") | exact (0 : Nat) | exact Value.none | skip
 all_goals first | ((try dsimp only); refine' hret _ _ _ ?y0 ?y1 ?y2 ?y3 ?y4; (case y3 => assumption); (case y4 => assumption); (case y1 => walk_at "mine sub2"); (case y2 => walk_at "mine fresh"); (case y0 => first | assumption | trivial | omega | (clear hret hraise; simp_all; done) | (clear hret hraise; simp_all; omega))) | ((try dsimp only); refine' hret2 _ _ _ ?y0 ?y1 ?y2 ?y3 ?y4; (case y3 => assumption); (case y4 => assumption); (case y1 => walk_at "mine sub2"); (case y2 => walk_at "mine fresh"); (case y0 => first | assumption | trivial | omega | (clear hret2 hraise; simp_all; done) | (clear hret2 hraise; simp_all; omega))) | (exfalso; clear hret hraise; simp_all; done) | (exfalso; clear hret hraise; simp_all; omega)
theorem Mine.cpb_2
 {ta : Addr} {vs : List Value} {i : Int} {ui : Tok} {sb : Bool} (H : Mine.Here w h₀ L s.heap m news frs l p loose mean mg mb (Mine.fnScope 12) dp un 8)
 (hm : (ta, ({ cls := .type "tuple", data := .seq vs.toArray } : Obj)) ∈ news) (hvl : vs.length ≤ 8) (v1 : m "t" = some (.ref ta)) (v2 : m "i" = some (.int i ui)) (hi0 : 0 ≤ i) (hi1 : i ≤ 300) (v3 : m "seen_triple" = some (.bool sb)) (hret : ∀  h' tk' news', ¬ (sb = true ∧ vs.length = 4) → (∀ p ∈ news, p ∈ news') → (∀ p ∈ news', p ∈ news ∨ ∀ r ∈ news, r.1 < p.1) → Fr h₀ L h' m → News h₀ L h' news' → Q .next { s with heap := h', toks := tk' }) (hraise : ∀ e a0 h' tk', (sb = true ∧ vs.length = 4) → Heap.FlyingW h₀ l e (.ref 224) a0 h' → Mine.Up frs h' → R (.error (.ref e)) { s with heap := h', toks := tk' }) :
 wpAny (model rw_ar0036_02.row.prog w) ((Mine.Fa dp un (some []) l).deeper (envOf nm (Mine.fnScope 12) L fa cd)) (exec (Mine.fnLoop 12 4 2) (envOf nm (Mine.fnScope 12) L fa cd)) Q (Mine.Out w ((Mine.Fa dp un (some []) l).deeper (envOf nm (Mine.fnScope 12) L fa cd)) (envOf nm (Mine.fnScope 12) L fa cd) R) s := by
 obtain ⟨F, X, N, T, Fs, sub, hk, hdp, hun⟩ := H
 (conv => arg 3; arg 1; whnf)
 walk_at "mine lit"
 w_on
 w_strict (
  revert X
  k_fill
  intro X
  
  k_steps)
 all_goals first | exact (Str.ofString "") | exact (0 : Nat) | exact Value.none | skip
 all_goals first | ((try dsimp only); refine' hret _ _ _ ?y0 ?y1 ?y2 ?y3 ?y4; (case y3 => assumption); (case y4 => assumption); (case y1 => walk_at "mine sub2"); (case y2 => walk_at "mine fresh"); (case y0 => first | assumption | trivial | omega | (clear hret hraise; simp_all; done) | (clear hret hraise; simp_all; omega))) | (refine' hraise _ _ _ _ ?y0 ?y1 ?y2; (case y1 => assumption); (case y2 => assumption); (case y0 => first | assumption | trivial | omega | (clear hret hraise; simp_all; done) | (clear hret hraise; simp_all; omega))) | (exfalso; clear hret hraise; simp_all; done) | (exfalso; clear hret hraise; simp_all; omega)
end
section
variable {w : World} {p : Program} {loose : List Str} {mean : ExcName → Option Value} {mg mb : Str → Option Value}
variable {dp un : Nat} {nm : Str} {fa : Addr} {cd : Value} {l : List Env} {h₀ : Heap} {L : Addr} {m : Str → Option Value} {news frs : Mine.Led} {s : Shared} {Q : Flow → Shared → Prop} {R : Result → Shared → Prop}
namespace Mine
inductive PalAre (news : Led) : List Value → List (List Int) → Prop
  | nil : PalAre news [] []
  | cons {ta : Addr} {its : List Value} {e : List Int} {vs : List Value} {es : List (List Int)} : (ta, ({ cls := .type "tuple", data := .seq its.toArray } : Obj)) ∈ news → IntsAre its e → PalAre news vs es → PalAre news (.ref ta :: vs) (e :: es)
theorem PalAre.mono {news nw : Led} (h : ∀ p ∈ news, p ∈ nw) : ∀ {vs : List Value} {es : List (List Int)}, PalAre news vs es → PalAre nw vs es
  | _, _, .nil => .nil
  | _, _, .cons a b r => .cons (h _ a) b (r.mono h)
theorem PalAre.len {news : Led} : ∀ {vs : List Value} {es : List (List Int)}, PalAre news vs es → vs.length = es.length
  | _, _, .nil => rfl
  | _, _, .cons _ _ r => by rw [List.length_cons, List.length_cons, r.len]
theorem PalAre.at {news : Led} : ∀ {vs : List Value} {es : List (List Int)}, PalAre news vs es → ∀ (i : Nat) (v : Value), vs[i]? = some v → ∃ ta its e, v = .ref ta ∧ es.drop i = e :: es.drop (i + 1) ∧ (ta, ({ cls := .type "tuple", data := .seq its.toArray } : Obj)) ∈ news ∧ IntsAre its e ∧ e ∈ es
  | _, _, .nil, i, v, h => by simp at h
  | _, _, .cons a b r, 0, v, h => by
    simp at h
    exact ⟨_, _, _, h.symm, rfl, a, b, .head _⟩
  | _, _, .cons a b r, i + 1, v, h => by
    simp only [List.getElem?_cons_succ] at h
    obtain ⟨ta, its, e, h1, h2, h3, h4, h5⟩ := r.at i v h
    exact ⟨ta, its, e, h1, h2, h3, h4, .tail _ h5⟩
def palOk : Bool → List (List Int) → Bool
  | _, [] => true
  | sb, e :: r => (e.length == 3 || e.length == 4) && !(sb && e.length == 4) && e.all (fun x => decide (0 ≤ x) && decide (x ≤ 255)) && palOk (sb || e.length == 3) r
theorem e12_3 : ∃ px pt pos, fnLoop 12 4 3 = .For (.Name "x" px) (.Name "t" pt) [fnLoop2 12 4 3 0] [] pos := ⟨_, _, _, rfl⟩
theorem e12_4 : ∃ pi pt pp pf pn ps x1 pq, fnAt 12 4 = .For (.Tuple [.Name "i" pi, .Name "t" pt] x1 pp) (.Call (.Name "enumerate" pf) [.Name "p" pn] [] ps) [fnLoop 12 4 0, fnLoop 12 4 1, fnLoop 12 4 2, fnLoop 12 4 3] [] pq := ⟨_, _, _, _, _, _, _, _, rfl⟩
end Mine
theorem Mine.cpb_3 {ta : Addr} {vs : List Value} {qs : List Int} {i : Int} {ui : Tok} (H : Mine.Here w h₀ L s.heap m news frs l p loose mean mg mb (Mine.fnScope 12) dp un 10)
  (hm : (ta, ({ cls := .type "tuple", data := .seq vs.toArray } : Obj)) ∈ news) (hi : IntsAre vs qs) (v1 : m "t" = some (.ref ta)) (v2 : m "i" = some (.int i ui)) (hi0 : 0 ≤ i) (hi1 : i ≤ 300)
  (hret : (∀ q ∈ qs, 0 ≤ q ∧ q ≤ 255) → ∀ m' h' tk', (∀ y : PySem.Str, y ≠ "x" → m' y = m y) → Fr h₀ L h' m' → News h₀ L h' news → Q .next { s with heap := h', toks := tk' })
  (hraise : ∀ e a0 h' tk', ¬ (∀ q ∈ qs, 0 ≤ q ∧ q ≤ 255) → Heap.FlyingW h₀ l e (.ref 224) a0 h' → Mine.Up frs h' → R (.error (.ref e)) { s with heap := h', toks := tk' }) : wpAny (model rw_ar0036_02.row.prog w) ((Mine.Fa dp un (some []) l).deeper (envOf nm (Mine.fnScope 12) L fa cd)) (exec (Mine.fnLoop 12 4 3) (envOf nm (Mine.fnScope 12) L fa cd)) Q (Mine.Out w ((Mine.Fa dp un (some []) l).deeper (envOf nm (Mine.fnScope 12) L fa cd)) (envOf nm (Mine.fnScope 12) L fa cd) R) s := by
  obtain ⟨px, pt, pos, e⟩ := Mine.e12_3
  rw [e]
  refine Mine.for_tup (J := fun i m₁ => (∀ k, k < i → ∀ n, qs[k]? = some n → 0 ≤ n ∧ n ≤ 255) ∧ ∀ y : PySem.Str, y ≠ "x" → m₁ y = m y) H.F H.N hm rfl rfl rfl (fun Q' hq => ld H.F v1 hq) ⟨fun k hk => absurd hk (Nat.not_lt_zero _), fun _ _ => rfl⟩ ?_ ?_
  · intro j v m₁ h tk I o hv hJ hlt F N
    obtain ⟨hJ1, hJ2⟩ := hJ
    have hil : j < qs.length := by rw [← hi.length]; exact (List.getElem?_eq_some_iff.mp hv).1
    obtain ⟨t9, hx9⟩ := hi.get j (qs[j]'hil) (List.getElem?_eq_getElem hil)
    have hv9 : v = .int (qs[j]'hil) t9 := by rw [hx9] at hv; exact (Option.some.inj hv).symm
    subst hv9
    have hmem : qs[j]'hil ∈ qs := List.getElem_mem hil
    have e9 : qs[j]? = some (qs[j]'hil) := List.getElem?_eq_getElem hil
    have v2' : (fun y : PySem.Str => if y = "x" then some (Value.int (qs[j]'hil) t9) else m₁ y) "i" = some (.int i ui) := by
      exact (if_neg (by decide : ¬ (("i" : PySem.Str) = "x"))).trans ((hJ2 _ (by decide)).trans v2)
    refine wpAny_execs_cons (Mine.cpb_x (s := { s with heap := h, toks := tk }) (q := qs[j]'hil) (u := t9) ((H.next F N (fun p hp => .tail _ (H.sub p hp))).weak (by decide)) (if_pos rfl) v2' hi0 hi1 (fun h' tk' news' g0 g5 sub' fr' F' N' => ?_) (fun e a0 h' tk' bad fl up => hraise e a0 h' tk' (fun hall => bad (hall _ hmem)) fl up))
    refine wpAny_execs_nil ⟨rfl, h', tk', _, rfl, F', fun p hp => N' p (sub' p hp), fun k hk n' hn' => ?_, fun y h1 => ?_⟩
    · by_cases hkj : k = j
      · subst hkj; rw [e9] at hn'; obtain rfl := Option.some.inj hn'; exact ⟨g0, g5⟩
      · exact hJ1 k (by omega) n' hn'
    · exact (if_neg h1).trans (hJ2 y h1)
  · intro h' tk' m' hJ F' N'
    refine hret (fun n hn => ?_) m' h' tk' hJ.2 F' N'
    obtain ⟨k, hk, rfl⟩ := List.getElem_of_mem hn
    exact hJ.1 k (by rw [hi.length]; exact hk) _ (List.getElem?_eq_getElem hk)
theorem Mine.cp_s4 {l2 : Addr} {ps : List Value} {k : Nat} {es : List (List Int)} (H : Mine.Here w h₀ L s.heap m news frs l p loose mean mg mb (Mine.fnScope 12) dp un 12)
  (hl2 : (l2, W.listOf ps.toArray k) ∈ news) (hpa : Mine.PalAre news ps es) (hpl : ps.length ≤ 300) (hel : ∀ e ∈ es, e.length ≤ 8) (v1 : m "p" = some (.ref l2)) (v2 : m "seen_triple" = some (.bool false))
  (hret : Mine.palOk false es = true → ∀ m' h' tk', (∀ y : PySem.Str, y ≠ "x" → y ≠ "i" → y ≠ "t" → y ≠ "seen_triple" → m' y = m y) → Fr h₀ L h' m' → News h₀ L h' news → Q .next { s with heap := h', toks := tk' })
  (hraise : ∀ e a0 h' tk', Mine.palOk false es = false → Heap.FlyingW h₀ l e (.ref 224) a0 h' → Mine.Up frs h' → R (.error (.ref e)) { s with heap := h', toks := tk' }) : wpAny (model rw_ar0036_02.row.prog w) ((Mine.Fa dp un (some []) l).deeper (envOf nm (Mine.fnScope 12) L fa cd)) (exec (Mine.fnAt 12 4) (envOf nm (Mine.fnScope 12) L fa cd)) Q (Mine.Out w ((Mine.Fa dp un (some []) l).deeper (envOf nm (Mine.fnScope 12) L fa cd)) (envOf nm (Mine.fnScope 12) L fa cd) R) s := by
  obtain ⟨pi, pt, pp, pf, pn, ps', x1, pq, e⟩ := Mine.e12_4
  rw [e]
  have H0 := H
  obtain ⟨F, X, N, T, Fs, sub, hk, hdp, hun⟩ := H
  refine Mine.for_enum (J := fun i m₁ => (∃ sb, m₁ "seen_triple" = some (.bool sb) ∧ Mine.palOk false es = Mine.palOk sb (es.drop i)) ∧ ∀ y : PySem.Str, y ≠ "x" → y ≠ "i" → y ≠ "t" → y ≠ "seen_triple" → m₁ y = m y) F N hl2 rfl rfl rfl rfl ?_ ⟨⟨false, v2, rfl⟩, fun _ _ _ _ _ => rfl⟩ ?_ ?_
  · intro Q' hq
    w_on
    w_strict (
     revert X
     k_fill
     intro X
     k_steps)
    all_goals first | exact hq _ rfl rfl rfl rfl | skip
  · intro i v u m₁ h tk en it oe oi hv hJ hlt1 hlt2 F1 N1
    obtain ⟨⟨sb, hJ1, hJ3⟩, hJ2⟩ := hJ
    obtain ⟨ta, its, e1, rfl, hdr, hta, hits, hmem⟩ := hpa.at i v hv
    have hil : i < ps.length := (List.getElem?_eq_some_iff.mp hv).1
    have hle : its.length ≤ 8 := by rw [hits.length]; exact hel _ hmem
    have hlen := hits.length
    have hs2 : ∀ p ∈ news, p ∈ (en, oe) :: (it, oi) :: news := fun p hp => .tail _ (.tail _ hp)
    have Hb := H0.next F1 N1 (fun p hp => hs2 p (sub p hp))
    have w1 : (fun y : PySem.Str => if y = "t" then some (Value.ref ta) else if y = "i" then some (.int i u) else m₁ y) "t" = some (.ref ta) := if_pos rfl
    have w2 : (fun y : PySem.Str => if y = "t" then some (Value.ref ta) else if y = "i" then some (.int i u) else m₁ y) "i" = some (.int i u) := by
      exact (if_neg (by decide : ¬ (("i" : PySem.Str) = "t"))).trans (if_pos rfl)
    have w3 : (fun y : PySem.Str => if y = "t" then some (Value.ref ta) else if y = "i" then some (.int i u) else m₁ y) "seen_triple" = some (.bool sb) := by
      exact (if_neg (by decide : ¬ (("seen_triple" : PySem.Str) = "t"))).trans ((if_neg (by decide : ¬ (("seen_triple" : PySem.Str) = "i"))).trans hJ1)
    have w4 : ∀ y : PySem.Str, y ≠ "x" → y ≠ "i" → y ≠ "t" → y ≠ "seen_triple" → (fun y : PySem.Str => if y = "t" then some (Value.ref ta) else if y = "i" then some (.int i u) else m₁ y) y = m y := fun y h1 h2 h3 h4 => by
      exact (if_neg h3).trans ((if_neg h2).trans (hJ2 y h1 h2 h3 h4))
    revert w1 w2 w3 w4 Hb
    generalize (fun y : PySem.Str => if y = "t" then some (Value.ref ta) else if y = "i" then some (Value.int i u) else m₁ y) = m₂
    intro Hb w1 w2 w3 w4
    have hi0 : (0 : Int) ≤ (i : Int) := Int.natCast_nonneg i
    have hi1 : (i : Int) ≤ 300 := by omega
    have bad : ∀ b, (Mine.palOk sb (e1 :: es.drop (i + 1)) = b) → Mine.palOk false es = b := fun b hb => by rw [hJ3, hdr]; exact hb
    refine wpAny_execs_cons (Mine.cpb_0 (s := { s with heap := h, toks := tk }) (Hb.weak (by decide)) (hs2 _ hta) hle w1 w2 hi0 hi1 (fun h2 tk2 nw2 g0 s2 f2 F2 N2 => ?_) (fun e a0 h' tk' bd fl up => hraise e a0 h' tk' (bad _ ?_) fl up))
    rotate_left 1
    · unfold Mine.palOk
      rw [hlen] at bd
      have : (e1.length == 3 || e1.length == 4) = false := by
        rw [Bool.or_eq_false_iff, beq_eq_false_iff_ne, beq_eq_false_iff_ne]
        exact ⟨fun h => bd (.inl h), fun h => bd (.inr h)⟩
      rw [this]; rfl
    have N2' : News h₀ L h2 ((en, oe) :: (it, oi) :: news) := fun p hp => N2 p (s2 p hp)
    have Hc := Hb.now F2 N2'
    have g0' : (e1.length == 3 || e1.length == 4) = true := by
      rw [← hlen, Bool.or_eq_true, beq_iff_eq, beq_iff_eq]; exact g0
    have rest : ∀ (m₃ : Str → Option Value) (h3 : Heap) (tk3 : Nat), m₃ "seen_triple" = some (.bool (sb || e1.length == 3)) → (∀ y : PySem.Str, y ≠ "seen_triple" → m₃ y = m₂ y) → Fr h₀ L h3 m₃ → News h₀ L h3 ((en, oe) :: (it, oi) :: news) →
        wpAny (model rw_ar0036_02.row.prog w) ((Mine.Fa dp un (some []) l).deeper (envOf nm (Mine.fnScope 12) L fa cd)) (execs [Mine.fnLoop 12 4 2, Mine.fnLoop 12 4 3] (envOf nm (Mine.fnScope 12) L fa cd)) (Mine.Turned h₀ L ((en, oe) :: (it, oi) :: news) (fun m₁ => (∃ sb, m₁ "seen_triple" = some (.bool sb) ∧ Mine.palOk false es = Mine.palOk sb (es.drop (i + 1))) ∧ ∀ y : PySem.Str, y ≠ "x" → y ≠ "i" → y ≠ "t" → y ≠ "seen_triple" → m₁ y = m y) { s with heap := h, toks := tk }) (Mine.Out w ((Mine.Fa dp un (some []) l).deeper (envOf nm (Mine.fnScope 12) L fa cd)) (envOf nm (Mine.fnScope 12) L fa cd) R) { s with heap := h3, toks := tk3 } := by
      intro m₃ h3 tk3 u3 u4 F3 N3
      have Hd := Hb.now F3 N3
      have x1 : m₃ "t" = some (.ref ta) := (u4 _ (by decide)).trans w1
      have x2 : m₃ "i" = some (.int i u) := (u4 _ (by decide)).trans w2
      refine wpAny_execs_cons (Mine.cpb_2 (s := { s with heap := h3, toks := tk3 }) (Hd.weak (by decide)) (hs2 _ hta) hle x1 x2 hi0 hi1 u3 (fun h4 tk4 nw4 g4 s4 f4 F4 N4 => ?_) (fun e a0 h' tk' bd fl up => hraise e a0 h' tk' (bad _ ?_) fl up))
      rotate_left 1
      · unfold Mine.palOk
        rw [hlen] at bd
        obtain ⟨b1, b2⟩ := bd
        have h3' : (e1.length == 3) = false := by rw [b2]; rfl
        have h4' : (e1.length == 4) = true := by rw [b2]; rfl
        rw [h3', Bool.or_false] at b1
        rw [b1, h3', h4']; rfl
      have N4' : News h₀ L h4 ((en, oe) :: (it, oi) :: news) := fun p hp => N4 p (s4 p hp)
      have He := Hb.now F4 N4'
      refine wpAny_execs_cons (Mine.cpb_3 (s := { s with heap := h4, toks := tk4 }) (He.weak (by decide)) (hs2 _ hta) hits x1 x2 hi0 hi1 (fun g5 m5 h5 tk5 q5 F5 N5 => ?_) (fun e a0 h' tk' bd fl up => hraise e a0 h' tk' (bad _ ?_) fl up))
      rotate_left 1
      · unfold Mine.palOk
        have : e1.all (fun x => decide (0 ≤ x) && decide (x ≤ 255)) = false := by
          rw [Bool.eq_false_iff]
          intro ha
          refine bd fun q hq => ?_
          have := List.all_eq_true.mp ha q hq
          simpa using this
        rw [this, Bool.and_false, Bool.false_and]
      refine wpAny_execs_nil ⟨rfl, h5, tk5, m5, rfl, F5, N5, ⟨sb || e1.length == 3, (q5 _ (by decide)).trans u3, ?_⟩, fun y a1 a2 a3 a4 => (q5 y a1).trans ((u4 y a4).trans (w4 y a1 a2 a3 a4))⟩
      rw [hJ3, hdr]
      have ha : e1.all (fun x => decide (0 ≤ x) && decide (x ≤ 255)) = true := List.all_eq_true.mpr fun q hq => by simpa using g5 q hq
      have hb : (!(sb && e1.length == 4)) = true := by
        rw [hlen] at g4
        cases sb with
        | false => rfl
        | true =>
          have : e1.length ≠ 4 := fun h => g4 ⟨rfl, h⟩
          simpa using this
      show ((e1.length == 3 || e1.length == 4) && !(sb && e1.length == 4) && e1.all _ && Mine.palOk (sb || e1.length == 3) _) = _
      rw [g0', ha, hb]; rfl
    refine wpAny_execs_cons (Mine.cpb_1 (s := { s with heap := h2, toks := tk2 }) (Hc.weak (by decide)) (hs2 _ hta) hle w1 (fun h3 tk3 nw3 g3 s3 f3 F3 N3 => ?_) (fun h3 tk3 nw3 g3 s3 f3 F3 N3 => ?_))
    · refine rest _ h3 tk3 ?_ (fun y hy => if_neg hy) F3 fun p hp => N3 p (s3 p hp)
      have : (e1.length == 3) = true := by rw [← hlen, g3]; rfl
      rw [this, Bool.or_true]; exact if_pos rfl
    · refine rest _ h3 tk3 ?_ (fun y hy => rfl) F3 fun p hp => N3 p (s3 p hp)
      have : (e1.length == 3) = false := by rw [← hlen, beq_eq_false_iff_ne]; exact g3
      rw [this, Bool.or_false]; exact w3
  · intro h' tk' m' hJ F' N'
    obtain ⟨⟨sb, hJ1, hJ3⟩, hJ2⟩ := hJ
    refine hret ?_ m' h' tk' hJ2 F' N'
    rw [hJ3, hpa.len, List.drop_length]; rfl
end
section
variable {w : World} {p : Program} {loose : List Str} {mean : ExcName → Option Value} {mg mb : Str → Option Value}
variable {dp un : Nat} {nm : Str} {fa : Addr} {cd : Value} {l : List Env} {h₀ : Heap} {L : Addr} {m : Str → Option Value} {news frs : Mine.Led} {s : Shared} {Q : Flow → Shared → Prop} {R : Result → Shared → Prop}
theorem Mine.cp_enter
 {dp un : Nat} {nm : Str} {cs : Scope} {fa : Addr} {cd : Value} {l : List Env} {h₀ : Heap} {L : Addr} {m : Str → Option Value} {news frs : Mine.Led} {s : Shared} {Q E : Value → Shared → Prop} {pal : Value} (H : Mine.Here w h₀ L s.heap m news frs l p loose mean mg mb cs dp un 18)
 (body : ∀ oL L' h₁ tk m', TI.Caller h₀ L m oL → (∀ p ∈ news, p.1 ≠ L) → (∀ p ∈ (L, oL) :: news, p.1 < L') → m' "palette" = some pal →
  Mine.Here w h₀ L' h₁ m' ((L, oL) :: news) ((L, oL) :: frs) (envOf nm cs L fa cd :: l) p loose mean mg mb (Mine.fnScope 12) (dp + 1) (un + 3) 14 →
  wpAny (model rw_ar0036_02.row.prog w) ((Mine.Fa (dp + 1) (un + 3) (some []) (envOf nm cs L fa cd :: l)).deeper (envOf "check_palette" (Mine.fnScope 12) L' 180 (.ref 179))) (execs (Mine.fnStmts 12) (envOf "check_palette" (Mine.fnScope 12) L' 180 (.ref 179)))
   (fun fl s' => Mine.LeaveM (Q (match fl with | .ret v => v | _ => .none) s'))
   (Mine.Out w ((Mine.Fa (dp + 1) (un + 3) (some []) (envOf nm cs L fa cd :: l)).deeper (envOf "check_palette" (Mine.fnScope 12) L' 180 (.ref 179))) (envOf "check_palette" (Mine.fnScope 12) L' 180 (.ref 179)) (fun r s' => match r with | .ok (.ret v) => Q v s' | .ok _ => False | .error e => E e s'))
   { s with heap := h₁, toks := tk }) :
 wpAny (model rw_ar0036_02.row.prog w) ((Mine.Fa dp un (some []) l).deeper (envOf nm cs L fa cd)) (call (.ref 180) [pal]) Q E s := by
 obtain ⟨F, X, N, T, Fs, sub, hk, hdp, hun⟩ := H
 w_on
 w_strict (
  revert X
  k_fill
  intro X
  (refine wpAny_call ?_)
  with_unfolding_all refine' Mine.enterF (name := "check_palette") (qual := "check_palette") (body := Mine.fnStmts 12) (scope := Mine.fnScope 12) (binds := [("palette", pal)]) F X N T Fs sub ?kA ?kf ?kke ?k6 ?k7 ?k8 ?k9 ?kB ?_ ?c2 ?c3 ?c4 ?c5
  case kA => exact rfl
  case kf => exact rfl
  case kke => exact hk
  case k6 => k_is
  case k7 => k_is
  case k8 => first | ktr_room | k_room
  case k9 => first | exact BindsTo.of_eq rfl
  case kB => exact locs rfl
  case c2 => exact rfl
  case c3 => exact rfl
  case c4 => exact rfl
  case c5 => decide +kernel)
 intro oL L' h₁ C' Fs' sub' lt' up' ne' F' N'
 exact body oL L' h₁ _ _ C' ne' lt' rfl ⟨F', X, N', T, Fs', sub', rfl, by omega, by omega⟩
theorem Mine.fnStmts12 : Mine.fnStmts 12 = [Mine.fnAt 12 0, Mine.fnAt 12 1, Mine.fnAt 12 2, Mine.fnAt 12 3, Mine.fnAt 12 4, Mine.fnAt 12 5] := by rfl
theorem Mine.leave_ne {h₀ h' : Heap} {L L' : Addr} {m m' : Str → Option Value} {oL : Obj} {news news' : Mine.Led} (C : TI.Caller h₀ L m oL) (hne : ∀ p ∈ news, p.1 ≠ L) (F' : Fr h₀ L' h' m') (N' : News h₀ L' h' news')
    (hsub : ∀ p ∈ (L, oL) :: news, p ∈ news') : ∃ nw, Fr h₀ L h' m ∧ News h₀ L h' nw ∧ (∀ p ∈ news, p ∈ nw) ∧ ∀ a o, (a, o) ∈ news' → (∃ vs n, o.data = .seq vs n) → (a, o) ∈ nw := by
  obtain ⟨F1, N1, off⟩ := Mine.leave_any C F' N' (hsub _ (.head _))
  exact ⟨_, F1, N1, fun p hp => List.mem_filter.mpr ⟨hsub p (.tail _ hp), by simpa using hne p hp⟩, off⟩
theorem Mine.cp_N
  {dp un : Nat} {nm : Str} {cs : Scope} {fa : Addr} {cd : Value} {l : List Env} {h₀ : Heap} {L : Addr} {m : Str → Option Value} {news frs : Mine.Led} {s : Shared} {Q E : Value → Shared → Prop} (H : Mine.Here w h₀ L s.heap m news frs l p loose mean mg mb cs dp un 18)
  (hret : ∀ h' tk' nw, (∀ p ∈ news, p ∈ nw) → Fr h₀ L h' m → News h₀ L h' nw → Q .none { s with heap := h', toks := tk' }) :
  wpAny (model rw_ar0036_02.row.prog w) ((Mine.Fa dp un (some []) l).deeper (envOf nm cs L fa cd)) (call (.ref 180) [.none]) Q E s := by
  refine Mine.cp_enter H fun oL L' h₁ tk m' C hne lt v1 H' => ?_
  rw [Mine.fnStmts12]
  refine wpAny_execs_cons ?_
  refine Mine.cp_s0n (H'.weak (by decide)) v1 fun h2 tk2 nw2 s2 f2 F2 N2 => ?_
  show Mine.LeaveM (Q .none _)
  obtain ⟨nw, F3, N3, s3, o3⟩ := Mine.leave_ne C hne F2 N2 s2
  exact hret h2 tk2 nw s3 F3 N3
theorem Mine.cp_L
  {dp un : Nat} {nm : Str} {cs : Scope} {fa : Addr} {cd : Value} {l : List Env} {h₀ : Heap} {L : Addr} {m : Str → Option Value} {news frs : Mine.Led} {s : Shared} {Q E : Value → Shared → Prop} {lp : Addr} {ps : List Value} {n : Nat} {es : List (List Int)} (H : Mine.Here w h₀ L s.heap m news frs l p loose mean mg mb cs dp un 18)
  (hlp : (lp, W.listOf ps.toArray n) ∈ news) (hpa : Mine.PalAre news ps es) (hpl : ps.length ≤ 300) (hel : ∀ e ∈ es, e.length ≤ 8)
  (hret : 0 < es.length → es.length ≤ 256 → Mine.palOk false es = true → ∀ l2 k h' tk' nw, (l2, W.listOf ps.toArray k) ∈ nw → (∀ p ∈ news, p ∈ nw) → Fr h₀ L h' m → News h₀ L h' nw → Q (.ref l2) { s with heap := h', toks := tk' })
  (hraise : ∀ e a0 h' tk' oL, ¬ (0 < es.length ∧ es.length ≤ 256 ∧ Mine.palOk false es = true) → Heap.FlyingW h₀ (envOf nm cs L fa cd :: l) e (.ref 224) a0 h' → Mine.Up ((L, oL) :: frs) h' → E (.ref e) { s with heap := h', toks := tk' }) :
  wpAny (model rw_ar0036_02.row.prog w) ((Mine.Fa dp un (some []) l).deeper (envOf nm cs L fa cd)) (call (.ref 180) [.ref lp]) Q E s := by
  refine Mine.cp_enter H fun oL L' h₁ tk m' C hne lt v1 H' => ?_
  have hlen := hpa.len
  have hup : ∀ p ∈ news, p ∈ (L, oL) :: news := fun p hp => .tail _ hp
  rw [Mine.fnStmts12]
  refine wpAny_execs_cons (Mine.cp_s0r (H'.weak (by decide)) v1 fun h2 tk2 nw2 s2 f2 F2 N2 => ?_)
  have N2' : News h₀ L' h2 ((L, oL) :: news) := fun p hp => N2 p (s2 p hp)
  have H2 := H'.now F2 N2'
  refine wpAny_execs_cons (Mine.cp_s1 (H2.weak (by decide)) (hup _ hlp) hpl v1 fun l2 k h3 tk3 lt3 F3 N3 => ?_)
  have H3 := H2.next F3 N3 fun p hp => .tail _ (H2.sub p hp)
  refine wpAny_execs_cons (Mine.cp_s2 (H3.weak (by decide)) (.head _) hpl (if_pos rfl) (fun h4 tk4 nw4 g0 g5 s4 f4 F4 N4 => ?_) (fun e a0 h' tk' bd fl up => hraise e a0 h' tk' oL (fun hh => bd (by rw [hlen]; exact ⟨hh.1, hh.2.1⟩)) fl up))
  have N4' : News h₀ L' h4 ((l2, W.listOf ps.toArray k) :: (L, oL) :: news) := fun p hp => N4 p (s4 p hp)
  have H4 := H3.now F4 N4'
  refine wpAny_execs_cons (Mine.cp_s3 (H4.weak (by decide)) fun h5 tk5 nw5 s5 f5 F5 N5 => ?_)
  have N5' : News h₀ L' h5 ((l2, W.listOf ps.toArray k) :: (L, oL) :: news) := fun p hp => N5 p (s5 p hp)
  have H5 := H4.now F5 N5'
  have vp : (fun y : PySem.Str => if y = "seen_triple" then some (Value.bool false) else (fun y : PySem.Str => if y = "p" then some (.ref l2) else m' y) y) "p" = some (.ref l2) := (if_neg (by decide : ¬ (("p" : PySem.Str) = "seen_triple"))).trans (if_pos rfl)
  refine wpAny_execs_cons (Mine.cp_s4 (H5.weak (by decide)) (.head _) (hpa.mono fun p hp => .tail _ (hup p hp)) hpl hel vp (if_pos rfl) (fun g6 m6 h6 tk6 q6 F6 N6 => ?_) (fun e a0 h' tk' bd fl up => hraise e a0 h' tk' oL (fun hh => by rw [hh.2.2] at bd; cases bd) fl up))
  have H6 := H5.now F6 N6
  have vp6 : m6 "p" = some (.ref l2) := (q6 _ (by decide) (by decide) (by decide) (by decide)).trans vp
  refine wpAny_execs_cons ?_
  refine Mine.cp_s5 (H6.weak (by decide)) vp6 fun h7 tk7 F7 N7 => ?_
  show Mine.LeaveM (Q (.ref l2) _)
  obtain ⟨nw, F8, N8, s8, o8⟩ := Mine.leave_ne C hne F7 N7 (fun p hp => .tail _ hp)
  exact hret (by rw [← hlen]; exact g0) (by rw [← hlen]; exact g5) g6 l2 k h7 tk7 nw (o8 _ _ (.head _) ⟨_, _, rfl⟩) s8 F8 N8
local macro_rules | `(tactic| walk_at $s:str) => Mine.hand "i40 " s
local macro_rules | `(tactic| walk_at "p") => Mine.pad
theorem Mine.k12 : True := by
 k_with "i40 call ref" => ((k_here; (with_reducible show wpAny _ _ (call (Value.ref 180) _) _ _ _); k_dflt (refine' Mine.cp_N ?H ?_; (case H => walk_at "mine here")); intro h' tk' nw' s3' F' N'; have sub5' := (fun p hp => s3' p (sub p hp) : ∀ p ∈ frs, p ∈ nw')))
 trivial
theorem Mine.init_s8n
  (H : Mine.Here w h₀ L s.heap m news frs l p loose mean mg mb Mine.initScope dp un 20)
 (v1 : m "palette" = some .none) (hret : ∀ h' tk' nw, (∀ p ∈ news, p ∈ nw) → Fr h₀ L h' (fun y => if y = "palette" then some .none else m y) → News h₀ L h' nw → Q .next { s with heap := h', toks := tk' }) :
 wpAny (model rw_ar0036_02.row.prog w) ((Mine.Fa dp un (some []) l).deeper (envOf nm Mine.initScope L fa cd)) (exec (Mine.initAt 8) (envOf nm Mine.initScope L fa cd)) Q (Mine.Out w ((Mine.Fa dp un (some []) l).deeper (envOf nm Mine.initScope L fa cd)) (envOf nm Mine.initScope L fa cd) R) s := by
 obtain ⟨F, X, N, T, Fs, sub, hk, hdp, hun⟩ := H
 (conv => arg 3; arg 1; whnf)
 walk_at "mine lit"
 w_on
 w_strict (
  revert X
  k_fill
  intro X
  
  k_steps)
 all_goals first | exact (Str.ofString "") | exact (0 : Nat) | exact Value.none | skip
 all_goals (refine' hret _ _ _ ?y1 ?y2 ?y3; (case y2 => assumption); (case y3 => assumption); (case y1 => assumption))
theorem Mine.k13 : True := by
 k_with "i40 call ref" => ((k_here; (with_reducible show wpAny _ _ (call (Value.ref 180) _) _ _ _); k_dflt (refine' Mine.cp_L ?H ?l ?a ?p ?q ?_ ?_; (case H => walk_at "mine here"); (case l => k_mem); (case a => assumption); (case p => assumption); (case q => assumption)); first | (intro g1' g2' g3' l2' k' h' tk' nw' m3' s3' F' N'; have sub5' := (fun p hp => s3' p (sub p hp) : ∀ p ∈ frs, p ∈ nw')) | (intro e' a0' h' tk' oL' bad' fl' up')))
 trivial
theorem Mine.init_s8l
 {lp : Addr} {ps : List Value} {n : Nat} {es : List (List Int)} (H : Mine.Here w h₀ L s.heap m news frs l p loose mean mg mb Mine.initScope dp un 20)
 (hlp : (lp, W.listOf ps.toArray n) ∈ news) (hpa : Mine.PalAre news ps es) (hpl : ps.length ≤ 300) (hel : ∀ e ∈ es, e.length ≤ 8) (v1 : m "palette" = some (.ref lp)) (hret : 0 < es.length ∧ es.length ≤ 256 ∧ Mine.palOk false es = true → ∀ l2 k h' tk' nw, (l2, W.listOf ps.toArray k) ∈ nw → (∀ p ∈ news, p ∈ nw) → Fr h₀ L h' (fun y => if y = "palette" then some (.ref l2) else m y) → News h₀ L h' nw → Q .next { s with heap := h', toks := tk' }) (hraise : ∀ e a0 h' tk', ¬ (0 < es.length ∧ es.length ≤ 256 ∧ Mine.palOk false es = true) → Heap.FlyingW h₀ l e (.ref 224) a0 h' → Mine.Up frs h' → R (.error (.ref e)) { s with heap := h', toks := tk' }) :
 wpAny (model rw_ar0036_02.row.prog w) ((Mine.Fa dp un (some []) l).deeper (envOf nm Mine.initScope L fa cd)) (exec (Mine.initAt 8) (envOf nm Mine.initScope L fa cd)) Q (Mine.Out w ((Mine.Fa dp un (some []) l).deeper (envOf nm Mine.initScope L fa cd)) (envOf nm Mine.initScope L fa cd) R) s := by
 obtain ⟨F, X, N, T, Fs, sub, hk, hdp, hun⟩ := H
 (conv => arg 3; arg 1; whnf)
 walk_at "mine lit"
 w_on
 w_strict (
  revert X
  k_fill
  intro X
  
  k_steps)
 all_goals first | exact (Str.ofString "") | exact (0 : Nat) | exact Value.none | skip
 all_goals first | (refine' hret ?y0 _ _ _ _ _ ?y5 ?y1 ?y2 ?y3; (case y2 => assumption); (case y3 => assumption); (case y1 => assumption); (case y5 => assumption); (case y0 => exact ⟨by assumption, by assumption, by assumption⟩)) | (refine' hraise _ _ _ _ ?y0 ?y1 ?y2; (case y1 => assumption); (case y2 => assumption); (case y0 => assumption))
end
section
variable {w : World} {p : Program} {loose : List Str} {mean : ExcName → Option Value} {mg mb : Str → Option Value}
theorem Mine.init_fA
 {dp un : Nat} {nm : Str} {fa : Addr} {cd : Value} {l : List Env} {h₀ : Heap} {L : Addr} {m : Str → Option Value} {frs : Mine.Led} {s : Shared} {Q : Flow → Shared → Prop} {R : Result → Shared → Prop}
 {x d : Addr} {n0 : Nat} {sl : Array (Option Value)} {rest : Mine.Led} {es0 : List DictEntry} {tl : List Stmt} {rr vw vh vt vb vg va vc vk vp : Value} {tg lc : Int} {ut ul : Tok} (H : Mine.Here w h₀ L s.heap m ((d, dictOf es0 n0) :: rest) frs l p loose mean mg mb Mine.initScope dp un 12)
 (sub2 : ∀ p ∈ frs, p ∈ rest) (hne : ∀ p ∈ rest, p.1 ≠ d) (hx : (x, (⟨.ref 359, some d, .plain, sl⟩ : Obj)) ∈ rest) (e0 : Mine.EntsAre w es0 [("rescale", rr)]) (v0 : m "self" = some (.ref x)) (v20 : m "width" = some vw) (v21 : m "height" = some vh) (v22 : m "transparent" = some vt) (v23 : m "background" = some vb) (v24 : m "greyscale" = some vg) (v25 : m "alpha" = some va) (v26 : m "colormap" = some vc) (v27 : m "bitdepth" = some (.int tg ut)) (v28 : m "compression" = some .none) (v29 : m "chunk_limit" = some vk) (v30 : m "interlace" = some (.int lc ul)) (v31 : m "palette" = some vp) (v32 : m "x_pixels_per_unit" = some .none) (v33 : m "y_pixels_per_unit" = some .none) (v34 : m "unit_is_meter" = some (.bool false)) (hret : ∀ h' tk' es' n' nw, Mine.EntsAre w es' [("rescale", rr), ("width", vw), ("height", vh), ("transparent", vt), ("background", vb), ("greyscale", vg), ("alpha", va), ("colormap", vc), ("bitdepth", Value.int tg ut), ("compression", .none), ("chunk_limit", vk), ("interlace", Value.bool (lc != 0)), ("palette", vp), ("x_pixels_per_unit", .none), ("y_pixels_per_unit", .none), ("unit_is_meter", (.bool false))] → (∀ p ∈ rest, p ∈ nw) → (∀ p ∈ nw, p.1 ≠ d) → Fr h₀ L h' m → News h₀ L h' ((d, dictOf es' n') :: nw) → wpAny (model rw_ar0036_02.row.prog w) ((Mine.Fa dp un (some []) l).deeper (envOf nm Mine.initScope L fa cd)) (execs tl (envOf nm Mine.initScope L fa cd)) Q (Mine.Out w ((Mine.Fa dp un (some []) l).deeper (envOf nm Mine.initScope L fa cd)) (envOf nm Mine.initScope L fa cd) R) { s with heap := h', toks := tk' }) :
 wpAny (model rw_ar0036_02.row.prog w) ((Mine.Fa dp un (some []) l).deeper (envOf nm Mine.initScope L fa cd)) (execs (Mine.initAt 20 :: Mine.initAt 21 :: Mine.initAt 22 :: Mine.initAt 23 :: Mine.initAt 24 :: Mine.initAt 25 :: Mine.initAt 26 :: Mine.initAt 27 :: Mine.initAt 28 :: Mine.initAt 29 :: Mine.initAt 30 :: Mine.initAt 31 :: Mine.initAt 32 :: Mine.initAt 33 :: Mine.initAt 34 :: tl) (envOf nm Mine.initScope L fa cd)) Q (Mine.Out w ((Mine.Fa dp un (some []) l).deeper (envOf nm Mine.initScope L fa cd)) (envOf nm Mine.initScope L fa cd) R) s := by
 obtain ⟨F, X, N, T, Fs, sub, hk, hdp, hun⟩ := H
 (repeat (conv in Mine.initAt _ => whnf))
 walk_at "mine lit"
 w_on
 w_strict (
  revert X
  k_fill
  intro X
  
  k_steps)
 all_goals first | exact (Str.ofString "") | exact (0 : Nat) | exact Value.none | skip
 all_goals (refine' hret _ _ _ _ _ ?y1 ?y2 ?y3 ?y4 ?y5; (case y4 => assumption); (case y5 => assumption); (case y1 => first | assumption | (simp only [List.cons_append, List.nil_append] at *; assumption)); (case y2 => first | exact fun _ h => h | walk_at "mine sub2"); (case y3 => first | assumption | exact List.forall_mem_cons.mpr ⟨by k_ne, by assumption⟩))
theorem Mine.init_fC
 {dp un : Nat} {nm : Str} {fa : Addr} {cd : Value} {l : List Env} {h₀ : Heap} {L : Addr} {m : Str → Option Value} {frs : Mine.Led} {s : Shared} {Q : Flow → Shared → Prop} {R : Result → Shared → Prop}
 {x d : Addr} {n0 : Nat} {sl : Array (Option Value)} {rest : Mine.Led} {es0 : List DictEntry} {tl : List Stmt} {rr vw vh vt vb vg va vc vk vp : Value} {tg lc : Int} {ut ul : Tok} {cp pl ct : Value} {kvs : List (PySem.Str × Value)} (H : Mine.Here w h₀ L s.heap m ((d, dictOf es0 n0) :: rest) frs l p loose mean mg mb Mine.initScope dp un 12)
 (sub2 : ∀ p ∈ frs, p ∈ rest) (hne : ∀ p ∈ rest, p.1 ≠ d) (hx : (x, (⟨.ref 359, some d, .plain, sl⟩ : Obj)) ∈ rest) (e0 : Mine.EntsAre w es0 [("rescale", rr), ("width", vw), ("height", vh), ("transparent", vt), ("background", vb), ("greyscale", vg), ("alpha", va), ("colormap", vc), ("bitdepth", Value.int tg ut), ("compression", .none), ("chunk_limit", vk), ("interlace", Value.bool (lc != 0)), ("palette", vp), ("x_pixels_per_unit", .none), ("y_pixels_per_unit", .none), ("unit_is_meter", (.bool false)), ("color_type", ct)]) (v0 : m "self" = some (.ref x)) (v37 : m "color_planes" = some cp) (v38 : m "planes" = some pl) (hret : ∀ h' tk' es' n' nw, Mine.EntsAre w es' [("rescale", rr), ("width", vw), ("height", vh), ("transparent", vt), ("background", vb), ("greyscale", vg), ("alpha", va), ("colormap", vc), ("bitdepth", Value.int tg ut), ("compression", .none), ("chunk_limit", vk), ("interlace", Value.bool (lc != 0)), ("palette", vp), ("x_pixels_per_unit", .none), ("y_pixels_per_unit", .none), ("unit_is_meter", (.bool false)), ("color_type", ct), ("color_planes", cp), ("planes", pl)] → (∀ p ∈ rest, p ∈ nw) → (∀ p ∈ nw, p.1 ≠ d) → Fr h₀ L h' m → News h₀ L h' ((d, dictOf es' n') :: nw) → wpAny (model rw_ar0036_02.row.prog w) ((Mine.Fa dp un (some []) l).deeper (envOf nm Mine.initScope L fa cd)) (execs tl (envOf nm Mine.initScope L fa cd)) Q (Mine.Out w ((Mine.Fa dp un (some []) l).deeper (envOf nm Mine.initScope L fa cd)) (envOf nm Mine.initScope L fa cd) R) { s with heap := h', toks := tk' }) :
 wpAny (model rw_ar0036_02.row.prog w) ((Mine.Fa dp un (some []) l).deeper (envOf nm Mine.initScope L fa cd)) (execs (Mine.initAt 37 :: Mine.initAt 38 :: tl) (envOf nm Mine.initScope L fa cd)) Q (Mine.Out w ((Mine.Fa dp un (some []) l).deeper (envOf nm Mine.initScope L fa cd)) (envOf nm Mine.initScope L fa cd) R) s := by
 obtain ⟨F, X, N, T, Fs, sub, hk, hdp, hun⟩ := H
 (repeat (conv in Mine.initAt _ => whnf))
 walk_at "mine lit"
 w_on
 w_strict (
  revert X
  k_fill
  intro X
  
  k_steps)
 all_goals first | exact (Str.ofString "") | exact (0 : Nat) | exact Value.none | skip
 all_goals (refine' hret _ _ _ _ _ ?y1 ?y2 ?y3 ?y4 ?y5; (case y4 => assumption); (case y5 => assumption); (case y1 => first | assumption | (simp only [List.cons_append, List.nil_append] at *; assumption)); (case y2 => first | exact fun _ h => h | walk_at "mine sub2"); (case y3 => first | assumption | exact List.forall_mem_cons.mpr ⟨by k_ne, by assumption⟩))
theorem Mine.init_fB_fff
 {dp un : Nat} {nm : Str} {fa : Addr} {cd : Value} {l : List Env} {h₀ : Heap} {L : Addr} {m : Str → Option Value} {frs : Mine.Led} {s : Shared} {Q : Flow → Shared → Prop} {R : Result → Shared → Prop}
 {x d : Addr} {n0 : Nat} {sl : Array (Option Value)} {rest : Mine.Led} {es0 : List DictEntry} {tl : List Stmt} {rr vw vh vt vb vg va vc vk vp : Value} {tg lc : Int} {ut ul : Tok} (H : Mine.Here w h₀ L s.heap m ((d, dictOf es0 n0) :: rest) frs l p loose mean mg mb Mine.initScope dp un 12)
 (sub2 : ∀ p ∈ frs, p ∈ rest) (hne : ∀ p ∈ rest, p.1 ≠ d) (hx : (x, (⟨.ref 359, some d, .plain, sl⟩ : Obj)) ∈ rest) (e0 : Mine.EntsAre w es0 [("rescale", rr), ("width", vw), ("height", vh), ("transparent", vt), ("background", vb), ("greyscale", Value.bool false), ("alpha", Value.bool false), ("colormap", Value.bool false), ("bitdepth", Value.int tg ut), ("compression", .none), ("chunk_limit", vk), ("interlace", Value.bool (lc != 0)), ("palette", vp), ("x_pixels_per_unit", .none), ("y_pixels_per_unit", .none), ("unit_is_meter", (.bool false))]) (v0 : m "self" = some (.ref x)) (vgr : m "greyscale" = some (.bool false)) (hret : ∀ uc h' tk' es' n' nw, Mine.EntsAre w es' [("rescale", rr), ("width", vw), ("height", vh), ("transparent", vt), ("background", vb), ("greyscale", Value.bool false), ("alpha", Value.bool false), ("colormap", Value.bool false), ("bitdepth", Value.int tg ut), ("compression", .none), ("chunk_limit", vk), ("interlace", Value.bool (lc != 0)), ("palette", vp), ("x_pixels_per_unit", .none), ("y_pixels_per_unit", .none), ("unit_is_meter", (.bool false)), ("color_type", Value.int 2 uc)] → (∀ p ∈ rest, p ∈ nw) → (∀ p ∈ nw, p.1 ≠ d) → Fr h₀ L h' m → News h₀ L h' ((d, dictOf es' n') :: nw) → wpAny (model rw_ar0036_02.row.prog w) ((Mine.Fa dp un (some []) l).deeper (envOf nm Mine.initScope L fa cd)) (execs tl (envOf nm Mine.initScope L fa cd)) Q (Mine.Out w ((Mine.Fa dp un (some []) l).deeper (envOf nm Mine.initScope L fa cd)) (envOf nm Mine.initScope L fa cd) R) { s with heap := h', toks := tk' }) :
 wpAny (model rw_ar0036_02.row.prog w) ((Mine.Fa dp un (some []) l).deeper (envOf nm Mine.initScope L fa cd)) (execs (Mine.initAt 35 :: Mine.initAt 36 :: tl) (envOf nm Mine.initScope L fa cd)) Q (Mine.Out w ((Mine.Fa dp un (some []) l).deeper (envOf nm Mine.initScope L fa cd)) (envOf nm Mine.initScope L fa cd) R) s := by
 obtain ⟨F, X, N, T, Fs, sub, hk, hdp, hun⟩ := H
 (repeat (conv in Mine.initAt _ => whnf))
 walk_at "mine lit"
 w_on
 w_strict (
  revert X
  k_fill
  intro X
  
  k_steps)
 all_goals first | exact (Str.ofString "") | exact (0 : Nat) | exact Value.none | skip
 all_goals (refine' hret _ _ _ _ _ (_ :: rest) ?y1 ?y2 ?y3 ?y4 ?y5; (case y4 => assumption); (case y5 => exact Mine.news_swap (by assumption)); (case y1 => first | assumption | (simp only [List.cons_append, List.nil_append] at *; assumption)); (case y2 => first | exact fun _ h => h | walk_at "mine sub2"); (case y3 => first | assumption | exact List.forall_mem_cons.mpr ⟨by k_ne, by assumption⟩))
theorem Mine.init_fB_tff
 {dp un : Nat} {nm : Str} {fa : Addr} {cd : Value} {l : List Env} {h₀ : Heap} {L : Addr} {m : Str → Option Value} {frs : Mine.Led} {s : Shared} {Q : Flow → Shared → Prop} {R : Result → Shared → Prop}
 {x d : Addr} {n0 : Nat} {sl : Array (Option Value)} {rest : Mine.Led} {es0 : List DictEntry} {tl : List Stmt} {rr vw vh vt vb vg va vc vk vp : Value} {tg lc : Int} {ut ul : Tok} (H : Mine.Here w h₀ L s.heap m ((d, dictOf es0 n0) :: rest) frs l p loose mean mg mb Mine.initScope dp un 12)
 (sub2 : ∀ p ∈ frs, p ∈ rest) (hne : ∀ p ∈ rest, p.1 ≠ d) (hx : (x, (⟨.ref 359, some d, .plain, sl⟩ : Obj)) ∈ rest) (e0 : Mine.EntsAre w es0 [("rescale", rr), ("width", vw), ("height", vh), ("transparent", vt), ("background", vb), ("greyscale", Value.bool false), ("alpha", Value.bool true), ("colormap", Value.bool false), ("bitdepth", Value.int tg ut), ("compression", .none), ("chunk_limit", vk), ("interlace", Value.bool (lc != 0)), ("palette", vp), ("x_pixels_per_unit", .none), ("y_pixels_per_unit", .none), ("unit_is_meter", (.bool false))]) (v0 : m "self" = some (.ref x)) (vgr : m "greyscale" = some (.bool false)) (hret : ∀ uc h' tk' es' n' nw, Mine.EntsAre w es' [("rescale", rr), ("width", vw), ("height", vh), ("transparent", vt), ("background", vb), ("greyscale", Value.bool false), ("alpha", Value.bool true), ("colormap", Value.bool false), ("bitdepth", Value.int tg ut), ("compression", .none), ("chunk_limit", vk), ("interlace", Value.bool (lc != 0)), ("palette", vp), ("x_pixels_per_unit", .none), ("y_pixels_per_unit", .none), ("unit_is_meter", (.bool false)), ("color_type", Value.int 6 uc)] → (∀ p ∈ rest, p ∈ nw) → (∀ p ∈ nw, p.1 ≠ d) → Fr h₀ L h' m → News h₀ L h' ((d, dictOf es' n') :: nw) → wpAny (model rw_ar0036_02.row.prog w) ((Mine.Fa dp un (some []) l).deeper (envOf nm Mine.initScope L fa cd)) (execs tl (envOf nm Mine.initScope L fa cd)) Q (Mine.Out w ((Mine.Fa dp un (some []) l).deeper (envOf nm Mine.initScope L fa cd)) (envOf nm Mine.initScope L fa cd) R) { s with heap := h', toks := tk' }) :
 wpAny (model rw_ar0036_02.row.prog w) ((Mine.Fa dp un (some []) l).deeper (envOf nm Mine.initScope L fa cd)) (execs (Mine.initAt 35 :: Mine.initAt 36 :: tl) (envOf nm Mine.initScope L fa cd)) Q (Mine.Out w ((Mine.Fa dp un (some []) l).deeper (envOf nm Mine.initScope L fa cd)) (envOf nm Mine.initScope L fa cd) R) s := by
 obtain ⟨F, X, N, T, Fs, sub, hk, hdp, hun⟩ := H
 (repeat (conv in Mine.initAt _ => whnf))
 walk_at "mine lit"
 w_on
 w_strict (
  revert X
  k_fill
  intro X
  
  k_steps)
 all_goals first | exact (Str.ofString "") | exact (0 : Nat) | exact Value.none | skip
 all_goals (refine' hret _ _ _ _ _ (_ :: rest) ?y1 ?y2 ?y3 ?y4 ?y5; (case y4 => assumption); (case y5 => exact Mine.news_swap (by assumption)); (case y1 => first | assumption | (simp only [List.cons_append, List.nil_append] at *; assumption)); (case y2 => first | exact fun _ h => h | walk_at "mine sub2"); (case y3 => first | assumption | exact List.forall_mem_cons.mpr ⟨by k_ne, by assumption⟩))
theorem Mine.init_fB_ftf
 {dp un : Nat} {nm : Str} {fa : Addr} {cd : Value} {l : List Env} {h₀ : Heap} {L : Addr} {m : Str → Option Value} {frs : Mine.Led} {s : Shared} {Q : Flow → Shared → Prop} {R : Result → Shared → Prop}
 {x d : Addr} {n0 : Nat} {sl : Array (Option Value)} {rest : Mine.Led} {es0 : List DictEntry} {tl : List Stmt} {rr vw vh vt vb vg va vc vk vp : Value} {tg lc : Int} {ut ul : Tok} (H : Mine.Here w h₀ L s.heap m ((d, dictOf es0 n0) :: rest) frs l p loose mean mg mb Mine.initScope dp un 12)
 (sub2 : ∀ p ∈ frs, p ∈ rest) (hne : ∀ p ∈ rest, p.1 ≠ d) (hx : (x, (⟨.ref 359, some d, .plain, sl⟩ : Obj)) ∈ rest) (e0 : Mine.EntsAre w es0 [("rescale", rr), ("width", vw), ("height", vh), ("transparent", vt), ("background", vb), ("greyscale", Value.bool true), ("alpha", Value.bool false), ("colormap", Value.bool false), ("bitdepth", Value.int tg ut), ("compression", .none), ("chunk_limit", vk), ("interlace", Value.bool (lc != 0)), ("palette", vp), ("x_pixels_per_unit", .none), ("y_pixels_per_unit", .none), ("unit_is_meter", (.bool false))]) (v0 : m "self" = some (.ref x)) (vgr : m "greyscale" = some (.bool true)) (hret : ∀ uc h' tk' es' n' nw, Mine.EntsAre w es' [("rescale", rr), ("width", vw), ("height", vh), ("transparent", vt), ("background", vb), ("greyscale", Value.bool true), ("alpha", Value.bool false), ("colormap", Value.bool false), ("bitdepth", Value.int tg ut), ("compression", .none), ("chunk_limit", vk), ("interlace", Value.bool (lc != 0)), ("palette", vp), ("x_pixels_per_unit", .none), ("y_pixels_per_unit", .none), ("unit_is_meter", (.bool false)), ("color_type", Value.int 0 uc)] → (∀ p ∈ rest, p ∈ nw) → (∀ p ∈ nw, p.1 ≠ d) → Fr h₀ L h' m → News h₀ L h' ((d, dictOf es' n') :: nw) → wpAny (model rw_ar0036_02.row.prog w) ((Mine.Fa dp un (some []) l).deeper (envOf nm Mine.initScope L fa cd)) (execs tl (envOf nm Mine.initScope L fa cd)) Q (Mine.Out w ((Mine.Fa dp un (some []) l).deeper (envOf nm Mine.initScope L fa cd)) (envOf nm Mine.initScope L fa cd) R) { s with heap := h', toks := tk' }) :
 wpAny (model rw_ar0036_02.row.prog w) ((Mine.Fa dp un (some []) l).deeper (envOf nm Mine.initScope L fa cd)) (execs (Mine.initAt 35 :: Mine.initAt 36 :: tl) (envOf nm Mine.initScope L fa cd)) Q (Mine.Out w ((Mine.Fa dp un (some []) l).deeper (envOf nm Mine.initScope L fa cd)) (envOf nm Mine.initScope L fa cd) R) s := by
 obtain ⟨F, X, N, T, Fs, sub, hk, hdp, hun⟩ := H
 (repeat (conv in Mine.initAt _ => whnf))
 walk_at "mine lit"
 w_on
 w_strict (
  revert X
  k_fill
  intro X
  
  k_steps)
 all_goals first | exact (Str.ofString "") | exact (0 : Nat) | exact Value.none | skip
 all_goals (refine' hret _ _ _ _ _ (_ :: rest) ?y1 ?y2 ?y3 ?y4 ?y5; (case y4 => assumption); (case y5 => exact Mine.news_swap (by assumption)); (case y1 => first | assumption | (simp only [List.cons_append, List.nil_append] at *; assumption)); (case y2 => first | exact fun _ h => h | walk_at "mine sub2"); (case y3 => first | assumption | exact List.forall_mem_cons.mpr ⟨by k_ne, by assumption⟩))
theorem Mine.init_fB_ttf
 {dp un : Nat} {nm : Str} {fa : Addr} {cd : Value} {l : List Env} {h₀ : Heap} {L : Addr} {m : Str → Option Value} {frs : Mine.Led} {s : Shared} {Q : Flow → Shared → Prop} {R : Result → Shared → Prop}
 {x d : Addr} {n0 : Nat} {sl : Array (Option Value)} {rest : Mine.Led} {es0 : List DictEntry} {tl : List Stmt} {rr vw vh vt vb vg va vc vk vp : Value} {tg lc : Int} {ut ul : Tok} (H : Mine.Here w h₀ L s.heap m ((d, dictOf es0 n0) :: rest) frs l p loose mean mg mb Mine.initScope dp un 12)
 (sub2 : ∀ p ∈ frs, p ∈ rest) (hne : ∀ p ∈ rest, p.1 ≠ d) (hx : (x, (⟨.ref 359, some d, .plain, sl⟩ : Obj)) ∈ rest) (e0 : Mine.EntsAre w es0 [("rescale", rr), ("width", vw), ("height", vh), ("transparent", vt), ("background", vb), ("greyscale", Value.bool true), ("alpha", Value.bool true), ("colormap", Value.bool false), ("bitdepth", Value.int tg ut), ("compression", .none), ("chunk_limit", vk), ("interlace", Value.bool (lc != 0)), ("palette", vp), ("x_pixels_per_unit", .none), ("y_pixels_per_unit", .none), ("unit_is_meter", (.bool false))]) (v0 : m "self" = some (.ref x)) (vgr : m "greyscale" = some (.bool true)) (hret : ∀ uc h' tk' es' n' nw, Mine.EntsAre w es' [("rescale", rr), ("width", vw), ("height", vh), ("transparent", vt), ("background", vb), ("greyscale", Value.bool true), ("alpha", Value.bool true), ("colormap", Value.bool false), ("bitdepth", Value.int tg ut), ("compression", .none), ("chunk_limit", vk), ("interlace", Value.bool (lc != 0)), ("palette", vp), ("x_pixels_per_unit", .none), ("y_pixels_per_unit", .none), ("unit_is_meter", (.bool false)), ("color_type", Value.int 4 uc)] → (∀ p ∈ rest, p ∈ nw) → (∀ p ∈ nw, p.1 ≠ d) → Fr h₀ L h' m → News h₀ L h' ((d, dictOf es' n') :: nw) → wpAny (model rw_ar0036_02.row.prog w) ((Mine.Fa dp un (some []) l).deeper (envOf nm Mine.initScope L fa cd)) (execs tl (envOf nm Mine.initScope L fa cd)) Q (Mine.Out w ((Mine.Fa dp un (some []) l).deeper (envOf nm Mine.initScope L fa cd)) (envOf nm Mine.initScope L fa cd) R) { s with heap := h', toks := tk' }) :
 wpAny (model rw_ar0036_02.row.prog w) ((Mine.Fa dp un (some []) l).deeper (envOf nm Mine.initScope L fa cd)) (execs (Mine.initAt 35 :: Mine.initAt 36 :: tl) (envOf nm Mine.initScope L fa cd)) Q (Mine.Out w ((Mine.Fa dp un (some []) l).deeper (envOf nm Mine.initScope L fa cd)) (envOf nm Mine.initScope L fa cd) R) s := by
 obtain ⟨F, X, N, T, Fs, sub, hk, hdp, hun⟩ := H
 (repeat (conv in Mine.initAt _ => whnf))
 walk_at "mine lit"
 w_on
 w_strict (
  revert X
  k_fill
  intro X
  
  k_steps)
 all_goals first | exact (Str.ofString "") | exact (0 : Nat) | exact Value.none | skip
 all_goals (refine' hret _ _ _ _ _ (_ :: rest) ?y1 ?y2 ?y3 ?y4 ?y5; (case y4 => assumption); (case y5 => exact Mine.news_swap (by assumption)); (case y1 => first | assumption | (simp only [List.cons_append, List.nil_append] at *; assumption)); (case y2 => first | exact fun _ h => h | walk_at "mine sub2"); (case y3 => first | assumption | exact List.forall_mem_cons.mpr ⟨by k_ne, by assumption⟩))
theorem Mine.init_fB_fft
 {dp un : Nat} {nm : Str} {fa : Addr} {cd : Value} {l : List Env} {h₀ : Heap} {L : Addr} {m : Str → Option Value} {frs : Mine.Led} {s : Shared} {Q : Flow → Shared → Prop} {R : Result → Shared → Prop}
 {x d : Addr} {n0 : Nat} {sl : Array (Option Value)} {rest : Mine.Led} {es0 : List DictEntry} {tl : List Stmt} {rr vw vh vt vb vg va vc vk vp : Value} {tg lc : Int} {ut ul : Tok} (H : Mine.Here w h₀ L s.heap m ((d, dictOf es0 n0) :: rest) frs l p loose mean mg mb Mine.initScope dp un 12)
 (sub2 : ∀ p ∈ frs, p ∈ rest) (hne : ∀ p ∈ rest, p.1 ≠ d) (hx : (x, (⟨.ref 359, some d, .plain, sl⟩ : Obj)) ∈ rest) (e0 : Mine.EntsAre w es0 [("rescale", rr), ("width", vw), ("height", vh), ("transparent", vt), ("background", vb), ("greyscale", Value.bool false), ("alpha", Value.bool false), ("colormap", Value.bool true), ("bitdepth", Value.int tg ut), ("compression", .none), ("chunk_limit", vk), ("interlace", Value.bool (lc != 0)), ("palette", vp), ("x_pixels_per_unit", .none), ("y_pixels_per_unit", .none), ("unit_is_meter", (.bool false))]) (v0 : m "self" = some (.ref x)) (vgr : m "greyscale" = some (.bool false)) (hret : ∀ uc h' tk' es' n' nw, Mine.EntsAre w es' [("rescale", rr), ("width", vw), ("height", vh), ("transparent", vt), ("background", vb), ("greyscale", Value.bool false), ("alpha", Value.bool false), ("colormap", Value.bool true), ("bitdepth", Value.int tg ut), ("compression", .none), ("chunk_limit", vk), ("interlace", Value.bool (lc != 0)), ("palette", vp), ("x_pixels_per_unit", .none), ("y_pixels_per_unit", .none), ("unit_is_meter", (.bool false)), ("color_type", Value.int 3 uc)] → (∀ p ∈ rest, p ∈ nw) → (∀ p ∈ nw, p.1 ≠ d) → Fr h₀ L h' m → News h₀ L h' ((d, dictOf es' n') :: nw) → wpAny (model rw_ar0036_02.row.prog w) ((Mine.Fa dp un (some []) l).deeper (envOf nm Mine.initScope L fa cd)) (execs tl (envOf nm Mine.initScope L fa cd)) Q (Mine.Out w ((Mine.Fa dp un (some []) l).deeper (envOf nm Mine.initScope L fa cd)) (envOf nm Mine.initScope L fa cd) R) { s with heap := h', toks := tk' }) :
 wpAny (model rw_ar0036_02.row.prog w) ((Mine.Fa dp un (some []) l).deeper (envOf nm Mine.initScope L fa cd)) (execs (Mine.initAt 35 :: Mine.initAt 36 :: tl) (envOf nm Mine.initScope L fa cd)) Q (Mine.Out w ((Mine.Fa dp un (some []) l).deeper (envOf nm Mine.initScope L fa cd)) (envOf nm Mine.initScope L fa cd) R) s := by
 obtain ⟨F, X, N, T, Fs, sub, hk, hdp, hun⟩ := H
 (repeat (conv in Mine.initAt _ => whnf))
 walk_at "mine lit"
 w_on
 w_strict (
  revert X
  k_fill
  intro X
  
  k_steps)
 all_goals first | exact (Str.ofString "") | exact (0 : Nat) | exact Value.none | skip
 all_goals (refine' hret _ _ _ _ _ (_ :: rest) ?y1 ?y2 ?y3 ?y4 ?y5; (case y4 => assumption); (case y5 => exact Mine.news_swap (by assumption)); (case y1 => first | assumption | (simp only [List.cons_append, List.nil_append] at *; assumption)); (case y2 => first | exact fun _ h => h | walk_at "mine sub2"); (case y3 => first | assumption | exact List.forall_mem_cons.mpr ⟨by k_ne, by assumption⟩))
end
section
variable {w : World} {p : Program} {loose : List Str} {mean : ExcName → Option Value} {mg mb : Str → Option Value}
variable {dp un : Nat} {nm : Str} {fa : Addr} {cd : Value} {l : List Env} {h₀ : Heap} {L : Addr} {m : Str → Option Value} {news frs : Mine.Led} {s : Shared} {Q : Flow → Shared → Prop} {R : Result → Shared → Prop}
theorem Mine.k14 : True := by
 k_with "s call ref" => ((k_here; (with_reducible show wpAny _ _ (call (Value.ref 409) [Value.int _ _]) _ _ _); k_dflt (refine' Mine.isnat_con ?H54q ?_; (case H54q => walk_at "mine here")); intro b'54q h'54q tk'54q hb'54q F'54q N'54q; (try k_sweep)))
 trivial
theorem Mine.cc_s0i
 {c : Int} {t1 : Tok} (H : Mine.Here w h₀ L s.heap m news frs l p loose mean mg mb (Mine.fnScope 14) dp un 6)
 (v1 : m "c" = some (.int c t1)) (hret : ∀ h' tk', Fr h₀ L h' m → News h₀ L h' news → Q .next { s with heap := h', toks := tk' }) :
 wpAny (model rw_ar0036_02.row.prog w) ((Mine.Fa dp un (some []) l).deeper (envOf nm (Mine.fnScope 14) L fa cd)) (exec (Mine.fnAt 14 0) (envOf nm (Mine.fnScope 14) L fa cd)) Q (Mine.Out w ((Mine.Fa dp un (some []) l).deeper (envOf nm (Mine.fnScope 14) L fa cd)) (envOf nm (Mine.fnScope 14) L fa cd) R) s := by
 obtain ⟨F, X, N, T, Fs, sub, hk, hdp, hun⟩ := H
 (conv => arg 3; arg 1; whnf)
 walk_at "mine lit"
 w_on
 w_strict (
  revert X
  k_fill
  intro X
  
  k_steps)
 all_goals first | exact (Str.ofString "") | exact (0 : Nat) | exact Value.none | skip
 all_goals exact hret _ _ (by assumption) (by assumption)
theorem Mine.cc_s1i
  {c : Int} {t1 : Tok} {new : Mine.Led} (H : Mine.Here w h₀ L s.heap m news frs l p loose mean mg mb (Mine.fnScope 14) dp un 8)
  (hnew : news = new ++ frs) (hap : ∀ p ∈ new, p.1 ∉ L :: frs.map (·.1)) (v1 : m "c" = some (.int c t1)) (v2 : m "greyscale" = some (.bool true)) (hc : 0 ≤ c) (hret : ∀ a u frs' h' tk', SameUp frs frs' → Frs l frs' → (∀ q ∈ new ++ frs', q.1 < a) → Fr h₀ L h' (fun y => if y = "c" then some (.ref a) else m y) → News h₀ L h' ((a, ({ cls := .type "tuple", data := .seq [Value.int c u].toArray } : Obj)) :: (new ++ frs')) → Q .next { s with heap := h', toks := tk' }) :
  wpAny (model rw_ar0036_02.row.prog w) ((Mine.Fa dp un (some []) l).deeper (envOf nm (Mine.fnScope 14) L fa cd)) (exec (Mine.fnAt 14 1) (envOf nm (Mine.fnScope 14) L fa cd)) Q (Mine.Out w ((Mine.Fa dp un (some []) l).deeper (envOf nm (Mine.fnScope 14) L fa cd)) (envOf nm (Mine.fnScope 14) L fa cd) R) s := by
  subst hnew
  obtain ⟨F, X, N, T, Fs, sub, hk, hdp, hun⟩ := H
  (conv => arg 3; arg 1; whnf)
  walk_at "mine lit"
  w_on
  w_strict (
   revert X
   k_fill
   intro X
   
   k_steps)
  all_goals first | exact (Str.ofString "") | exact (0 : Nat) | exact Value.none | skip
  all_goals first | (exact hret _ _ _ _ _ (by assumption) (by assumption) (by assumption) (by assumption) (by assumption)) | (exfalso; clear hret; simp_all; done)
theorem Mine.cc_s2
 {v : Value} (H : Mine.Here w h₀ L s.heap m news frs l p loose mean mg mb (Mine.fnScope 14) dp un 6)
 (v1 : m "c" = some v) (hret : ∀ h' tk', Fr h₀ L h' m → News h₀ L h' news → Q (.ret v) { s with heap := h', toks := tk' }) :
 wpAny (model rw_ar0036_02.row.prog w) ((Mine.Fa dp un (some []) l).deeper (envOf nm (Mine.fnScope 14) L fa cd)) (exec (Mine.fnAt 14 2) (envOf nm (Mine.fnScope 14) L fa cd)) Q (Mine.Out w ((Mine.Fa dp un (some []) l).deeper (envOf nm (Mine.fnScope 14) L fa cd)) (envOf nm (Mine.fnScope 14) L fa cd) R) s := by
 obtain ⟨F, X, N, T, Fs, sub, hk, hdp, hun⟩ := H
 (conv => arg 3; arg 1; whnf)
 walk_at "mine lit"
 w_on
 w_strict (
  revert X
  k_fill
  intro X
  
  k_steps)
 all_goals first | exact (Str.ofString "") | exact (0 : Nat) | exact Value.none | skip
 all_goals ((try dsimp only); exact hret _ _ (by assumption) (by assumption))
end
section
variable {w : World} {p : Program} {loose : List Str} {mean : ExcName → Option Value} {mg mb : Str → Option Value}
theorem Mine.cc_enter
 {dp un : Nat} {nm : Str} {cs : Scope} {fa : Addr} {cd : Value} {l : List Env} {h₀ : Heap} {L : Addr} {m : Str → Option Value} {news frs : Mine.Led} {s : Shared} {Q E : Value → Shared → Prop} {vc vg vw : Value} (H : Mine.Here w h₀ L s.heap m news frs l p loose mean mg mb cs dp un 18)
 (body : ∀ oL L' h₁ tk m', TI.Caller h₀ L m oL → (∀ p ∈ news, p.1 ≠ L) → (∀ p ∈ (L, oL) :: news, p.1 < L') → m' "c" = some vc → m' "greyscale" = some vg → m' "which" = some vw →
  Mine.Here w h₀ L' h₁ m' ((L, oL) :: news) ((L, oL) :: frs) (envOf nm cs L fa cd :: l) p loose mean mg mb (Mine.fnScope 14) (dp + 1) (un + 3) 14 →
  wpAny (model rw_ar0036_02.row.prog w) ((Mine.Fa (dp + 1) (un + 3) (some []) (envOf nm cs L fa cd :: l)).deeper (envOf "check_color" (Mine.fnScope 14) L' 194 (.ref 193))) (execs (Mine.fnStmts 14) (envOf "check_color" (Mine.fnScope 14) L' 194 (.ref 193)))
   (fun fl s' => Mine.LeaveM (Q (match fl with | .ret v => v | _ => .none) s'))
   (Mine.Out w ((Mine.Fa (dp + 1) (un + 3) (some []) (envOf nm cs L fa cd :: l)).deeper (envOf "check_color" (Mine.fnScope 14) L' 194 (.ref 193))) (envOf "check_color" (Mine.fnScope 14) L' 194 (.ref 193)) (fun r s' => match r with | .ok (.ret v) => Q v s' | .ok _ => False | .error e => E e s'))
   { s with heap := h₁, toks := tk }) :
 wpAny (model rw_ar0036_02.row.prog w) ((Mine.Fa dp un (some []) l).deeper (envOf nm cs L fa cd)) (call (.ref 194) [vc, vg, vw]) Q E s := by
 obtain ⟨F, X, N, T, Fs, sub, hk, hdp, hun⟩ := H
 w_on
 w_strict (
  revert X
  k_fill
  intro X
  (refine wpAny_call ?_)
  with_unfolding_all refine' Mine.enterF (name := "check_color") (qual := "check_color") (body := Mine.fnStmts 14) (scope := Mine.fnScope 14) (binds := [("c", vc), ("greyscale", vg), ("which", vw)]) F X N T Fs sub ?kA ?kf ?kke ?k6 ?k7 ?k8 ?k9 ?kB ?_ ?c2 ?c3 ?c4 ?c5
  case kA => exact rfl
  case kf => exact rfl
  case kke => exact hk
  case k6 => k_is
  case k7 => k_is
  case k8 => first | ktr_room | k_room
  case k9 => first | exact BindsTo.of_eq rfl
  case kB => exact locs rfl
  case c2 => exact rfl
  case c3 => exact rfl
  case c4 => exact rfl
  case c5 => decide +kernel)
 intro oL L' h₁ C' Fs' sub' lt' up' ne' F' N'
 exact body oL L' h₁ _ _ C' ne' lt' rfl rfl rfl ⟨F', X, N', T, Fs', sub', rfl, by omega, by omega⟩
theorem Mine.fnStmts14 : Mine.fnStmts 14 = [Mine.fnAt 14 0, Mine.fnAt 14 1, Mine.fnAt 14 2] := by rfl
theorem Mine.cc_i
  {dp un : Nat} {nm : Str} {cs : Scope} {fa : Addr} {cd : Value} {l : List Env} {h₀ : Heap} {L : Addr} {m : Str → Option Value} {news frs : Mine.Led} {s : Shared} {Q E : Value → Shared → Prop} {c : Int} {t : Tok} {vw : Value} (H : Mine.Here w h₀ L s.heap m news frs l p loose mean mg mb cs dp un 18) (hc : 0 ≤ c)
  (hret : ∀ a u frs2 h' tk' nw, SameUp frs frs2 → Frs l frs2 → (∀ p ∈ frs2, p ∈ nw) → (∀ p ∈ news, (∀ q ∈ frs, q.1 ≠ p.1) → p ∈ nw) → (∀ p ∈ nw, p ∈ frs2 ∨ p ∈ news ∨ ∀ r ∈ news, r.1 < p.1) → (a, ({ cls := .type "tuple", data := .seq [Value.int c u].toArray } : Obj)) ∈ nw → Fr h₀ L h' m → News h₀ L h' nw → Q (.ref a) { s with heap := h', toks := tk' }) :
  wpAny (model rw_ar0036_02.row.prog w) ((Mine.Fa dp un (some []) l).deeper (envOf nm cs L fa cd)) (call (.ref 194) [.int c t, .bool true, vw]) Q E s := by
  refine Mine.cc_enter H fun oL L' h₁ tk m' C hne lt v1 v2 v3 H' => ?_
  rw [Mine.fnStmts14]
  refine wpAny_execs_cons (Mine.cc_s0i (H'.weak (by decide)) v1 fun h2 tk2 F2 N2 => ?_)
  have H2 := H'.now F2 N2
  have key : ∀ p : Addr × Obj, (p ∈ news.filter fun p => !(frs.map (·.1)).contains p.1) ↔ p ∈ news ∧ ∀ q ∈ frs, q.1 ≠ p.1 := fun p => by
    rw [List.mem_filter]
    refine and_congr_right fun _ => ?_
    simp only [Bool.not_eq_true', List.contains_eq_any_beq, List.any_eq_false, List.mem_map, beq_iff_eq, forall_exists_index, and_imp]
    exact ⟨fun h q hq e => h q.1 q hq rfl e.symm, fun h x q hq e e2 => h q hq (e.trans e2.symm)⟩
  have hsubs : ∀ p ∈ (news.filter fun p => !(frs.map (·.1)).contains p.1) ++ (L, oL) :: frs, p ∈ (L, oL) :: news := fun p hp => by
    rcases List.mem_append.mp hp with hp | hp
    · exact .tail _ ((key p).mp hp).1
    · rcases List.mem_cons.mp hp with rfl | hp
      · exact .head _
      · exact .tail _ (H.sub p hp)
  refine wpAny_execs_cons (Mine.cc_s1i (new := news.filter fun p => !(frs.map (·.1)).contains p.1) (frs := (L, oL) :: frs) ((H2.next F2 (fun p hp => N2 p (hsubs p hp)) (fun p hp => List.mem_append.mpr (.inr hp))).weak (by decide)) rfl (fun p hp => ?_) v1 v2 hc fun a u frs3 h3 tk3 SU Fs3 lt3 F3 N3 => ?_)
  · obtain ⟨hp1, hp2⟩ := (key p).mp hp
    simp only [List.map_cons, List.mem_cons, List.mem_map, not_or, not_exists, not_and]
    exact ⟨Nat.ne_of_lt (lt p (.tail _ hp1)), hne p hp1, fun q hq e => hp2 q hq e⟩
  · match frs3, SU, Fs3, lt3, N3 with
    | q :: frs2, SU, Fs3, lt3, N3 =>
      obtain ⟨e1, ⟨sl, e2⟩, SU2⟩ := SU
      obtain ⟨qa, qo⟩ := q
      dsimp only at e1 e2
      subst e1 e2
      have Fs2 : Frs l frs2 := Fs3.2.2.2
      have vc' : (fun y : PySem.Str => if y = "c" then some (Value.ref a) else m' y) "c" = some (.ref a) := if_pos rfl
      have H3 := (H2.next F2 (fun p hp => N2 p (hsubs p hp)) (fun p hp => List.mem_append.mpr (.inr hp)))
      refine wpAny_execs_cons ?_
      refine Mine.cc_s2 (frs := (qa, { oL with slots := sl }) :: frs2) ⟨F3, H2.X, N3, H2.T, Fs3, fun p hp => .tail _ (List.mem_append.mpr (.inr hp)), H2.k, Nat.lt_of_le_of_lt (Nat.add_le_add_left (by decide) _) H2.d, Nat.lt_of_le_of_lt (Nat.add_le_add_left (by decide) _) H2.u⟩ vc' fun h4 tk4 F4 N4 => ?_
      show Mine.LeaveM (Q (.ref a) _)
      have hfa : ∀ p ∈ frs2, p.1 ≠ qa := fun p hp => by
        obtain ⟨q, hq, e⟩ := SameUp.fwd SU2 p hp
        rw [e]; exact hne q (H.sub q hq)
      have hb := Mine.backF (sl := sl) (news := (a, ({ cls := .type "tuple", data := .seq [Value.int c u].toArray } : Obj)) :: ((news.filter fun p => !(frs.map (·.1)).contains p.1) ++ frs2)) C F4 N4 (.tail _ (List.mem_append.mpr (.inr (.head _)))) (fun p hp => by
        rcases List.mem_cons.mp hp with rfl | hp
        · exact ⟨.head _, Nat.ne_of_gt (lt3 _ (List.mem_append.mpr (.inr (.head _))))⟩
        · rcases List.mem_append.mp hp with hp | hp
          · exact ⟨.tail _ (List.mem_append.mpr (.inl hp)), hne p ((key p).mp hp).1⟩
          · exact ⟨.tail _ (List.mem_append.mpr (.inr (.tail _ hp))), hfa p hp⟩)
      refine hret a u frs2 h4 tk4 _ SU2 Fs2 (fun p hp => .tail _ (List.mem_append.mpr (.inr hp))) (fun p hp hq => .tail _ (List.mem_append.mpr (.inl ((key p).mpr ⟨hp, hq⟩)))) (fun p hp => ?_) (.head _) hb.1 hb.2
      rcases List.mem_cons.mp hp with rfl | hp
      · refine .inr (.inr fun r hr => ?_)
        by_cases hq : ∀ q ∈ frs, q.1 ≠ r.1
        · exact lt3 r (List.mem_append.mpr (.inl ((key r).mpr ⟨hr, hq⟩)))
        · obtain ⟨q, hq, e⟩ : ∃ q ∈ frs, q.1 = r.1 := by
            false_or_by_contra
            rename_i hn
            exact hq fun q hq2 e => hn ⟨q, hq2, e⟩
          obtain ⟨sl2, hm2⟩ := SameUp.back SU2 q hq
          have h9 := lt3 _ (List.mem_append.mpr (.inr (.tail _ hm2)))
          rw [← e]; exact h9
      · rcases List.mem_append.mp hp with hp | hp
        · exact .inr (.inl ((key p).mp hp).1)
        · exact .inl hp
end
section
variable {w : World} {p : Program} {loose : List Str} {mean : ExcName → Option Value} {mg mb : Str → Option Value}
variable {dp un : Nat} {nm : Str} {fa : Addr} {cd : Value} {l : List Env} {h₀ : Heap} {L : Addr} {m : Str → Option Value} {news frs : Mine.Led} {s : Shared} {Q : Flow → Shared → Prop} {R : Result → Shared → Prop}
local macro_rules | `(tactic| walk_at $s:str) => Mine.hand "i44 " s
theorem Mine.k15 : True := by
 k_with "i44 call ref" => ((k_here; (with_reducible show wpAny _ _ (call (Value.ref 194) _) _ _ _); k_dflt (refine' Mine.cc_i ?H ?c ?_; (case H => walk_at "mine here"); (case c => assumption)); intro a' u' frs2' h' tk' nw' su' fs' s1' s2' s3' m1' F' N'))
 trivial
theorem Mine.init_s18i
 {c : Int} {t : Tok} (H : Mine.Here w h₀ L s.heap m news frs l p loose mean mg mb Mine.initScope dp un 20)
 (hc : 0 ≤ c) (v1 : m "transparent" = some (.int c t)) (v2 : m "greyscale" = some (.bool true)) (hret : ∀ a u frs2 h' tk' nw, SameUp frs frs2 → Frs l frs2 → (∀ p ∈ frs2, p ∈ nw) → (∀ p ∈ news, (∀ q ∈ frs, q.1 ≠ p.1) → p ∈ nw) → (∀ p ∈ nw, p ∈ frs2 ∨ p ∈ news ∨ ∀ r ∈ news, r.1 < p.1) → (a, ({ cls := .type "tuple", data := .seq [Value.int c u].toArray } : Obj)) ∈ nw → Fr h₀ L h' (fun y => if y = "transparent" then some (.ref a) else m y) → News h₀ L h' nw → Q .next { s with heap := h', toks := tk' }) :
 wpAny (model rw_ar0036_02.row.prog w) ((Mine.Fa dp un (some []) l).deeper (envOf nm Mine.initScope L fa cd)) (exec (Mine.initAt 18) (envOf nm Mine.initScope L fa cd)) Q (Mine.Out w ((Mine.Fa dp un (some []) l).deeper (envOf nm Mine.initScope L fa cd)) (envOf nm Mine.initScope L fa cd) R) s := by
 obtain ⟨F, X, N, T, Fs, sub, hk, hdp, hun⟩ := H
 (conv => arg 3; arg 1; whnf)
 walk_at "mine lit"
 w_on
 w_strict (
  revert X
  k_fill
  intro X
  
  k_steps)
 all_goals first | exact (Str.ofString "") | exact (0 : Nat) | exact Value.none | skip
 all_goals exact hret _ _ _ _ _ _ (by assumption) (by assumption) (by assumption) (by assumption) (by assumption) (by assumption) (by assumption) (by assumption)
theorem Mine.init_s19i
 {c : Int} {t : Tok} (H : Mine.Here w h₀ L s.heap m news frs l p loose mean mg mb Mine.initScope dp un 20)
 (hc : 0 ≤ c) (v1 : m "background" = some (.int c t)) (v2 : m "greyscale" = some (.bool true)) (hret : ∀ a u frs2 h' tk' nw, SameUp frs frs2 → Frs l frs2 → (∀ p ∈ frs2, p ∈ nw) → (∀ p ∈ news, (∀ q ∈ frs, q.1 ≠ p.1) → p ∈ nw) → (∀ p ∈ nw, p ∈ frs2 ∨ p ∈ news ∨ ∀ r ∈ news, r.1 < p.1) → (a, ({ cls := .type "tuple", data := .seq [Value.int c u].toArray } : Obj)) ∈ nw → Fr h₀ L h' (fun y => if y = "background" then some (.ref a) else m y) → News h₀ L h' nw → Q .next { s with heap := h', toks := tk' }) :
 wpAny (model rw_ar0036_02.row.prog w) ((Mine.Fa dp un (some []) l).deeper (envOf nm Mine.initScope L fa cd)) (exec (Mine.initAt 19) (envOf nm Mine.initScope L fa cd)) Q (Mine.Out w ((Mine.Fa dp un (some []) l).deeper (envOf nm Mine.initScope L fa cd)) (envOf nm Mine.initScope L fa cd) R) s := by
 obtain ⟨F, X, N, T, Fs, sub, hk, hdp, hun⟩ := H
 (conv => arg 3; arg 1; whnf)
 walk_at "mine lit"
 w_on
 w_strict (
  revert X
  k_fill
  intro X
  
  k_steps)
 all_goals first | exact (Str.ofString "") | exact (0 : Nat) | exact Value.none | skip
 all_goals exact hret _ _ _ _ _ _ (by assumption) (by assumption) (by assumption) (by assumption) (by assumption) (by assumption) (by assumption) (by assumption)
end
section
variable {w : World} {p : Program} {loose : List Str} {mean : ExcName → Option Value} {mg mb : Str → Option Value}
variable {dp un : Nat} {nm : Str} {fa : Addr} {cd : Value} {l : List Env} {h₀ : Heap} {L : Addr} {m : Str → Option Value} {news frs : Mine.Led} {s : Shared} {Q : Flow → Shared → Prop} {R : Result → Shared → Prop}
local macro_rules | `(tactic| walk_at $s:str) => Mine.hand "i45 " s
local macro_rules | `(tactic| walk_at "p") => Mine.pad
theorem Mine.k16 : True := by
 k_with "i45 binaryOp Mod str str" => ((k_here; (with_reducible first | refine Mine.pctS0 ?_ ?_ | refine Mine.pctS1 ?_ ?_ | refine Mine.pctS2 ?_ ?_); (k_dflt kpc_size); intro x'55q t'55q k'55q))
 trivial
theorem Mine.cc_t3
 {dp un : Nat} {nm : Str} {cs : Scope} {fa : Addr} {cd : Value} {l : List Env} {h₀ : Heap} {L : Addr} {m : Str → Option Value} {news frs : Mine.Led} {s : Shared} {Q E : Value → Shared → Prop}
 {a : Int} {ua : Tok} {b : Int} {ub : Tok} {c : Int} {uc : Tok} {lp : Addr} {X : Str} {ux : Tok} (H : Mine.Here w h₀ L s.heap m news frs l p loose mean mg mb cs dp un 10) (hX : X.length ≤ 200)
 (hm : (lp, ({ cls := .type "tuple", data := .seq [Value.int a ua, Value.int b ub, Value.int c uc].toArray } : Obj)) ∈ news)
 (hret : 0 ≤ a ∧ 0 ≤ b ∧ 0 ≤ c → ∀ h' tk' nw, Fr h₀ L h' m → News h₀ L h' nw → (∀ p ∈ news, p ∈ nw) → (∀ p ∈ nw, p ∈ news ∨ ∀ r ∈ news, r.1 < p.1) → Q (.ref lp) { s with heap := h', toks := tk' })
 (hraise : ∀ e a0 h' tk' oL, ¬ (0 ≤ a ∧ 0 ≤ b ∧ 0 ≤ c) → Heap.FlyingW h₀ (envOf nm cs L fa cd :: l) e (.ref 224) a0 h' → Mine.Up ((L, oL) :: frs) h' → E (.ref e) { s with heap := h', toks := tk' }) :
 wpAny (model rw_ar0036_02.row.prog w) ((Mine.Fa dp un (some []) l).deeper (envOf nm cs L fa cd)) (call (.ref 194) [.ref lp, .bool false, .str X ux]) Q E s := by
 obtain ⟨F, X, N, T, Fs, sub, hk, hdp, hun⟩ := H
 w_on
 w_strict (
  revert X
  k_fill
  intro X
  k_steps)
 all_goals first | exact (Str.ofString "") | exact (0 : Nat) | exact Value.none | skip
 all_goals first | (refine' hret ?yg _ _ _ ?y1 ?y2 ?y3 ?y4; (case y1 => assumption); (case y2 => assumption); (case y3 => walk_at "mine sub2"); (case y4 => walk_at "mine fresh"); (case yg => (refine ⟨?_, ?_, ?_⟩ <;> (simp_all; done)))) | (refine' hraise _ _ _ _ _ ?y0 ?y1 ?y2; (case y1 => assumption); (case y2 => assumption); (case y0 => first | trivial | (clear hret hraise; intro hall; simp_all; done) | (intro hall; simp_all; done))) | (exfalso; simp_all; done)
theorem Mine.cc_t4
 {dp un : Nat} {nm : Str} {cs : Scope} {fa : Addr} {cd : Value} {l : List Env} {h₀ : Heap} {L : Addr} {m : Str → Option Value} {news frs : Mine.Led} {s : Shared} {Q E : Value → Shared → Prop}
 {a : Int} {ua : Tok} {b : Int} {ub : Tok} {c : Int} {uc : Tok} {e : Int} {ue : Tok} {lp : Addr} {X : Str} {ux : Tok} (H : Mine.Here w h₀ L s.heap m news frs l p loose mean mg mb cs dp un 10) (hX : X.length ≤ 200)
 (hm : (lp, ({ cls := .type "tuple", data := .seq [Value.int a ua, Value.int b ub, Value.int c uc, Value.int e ue].toArray } : Obj)) ∈ news)
 (hraise : ∀ e a0 h' tk' oL, True → Heap.FlyingW h₀ (envOf nm cs L fa cd :: l) e (.ref 224) a0 h' → Mine.Up ((L, oL) :: frs) h' → E (.ref e) { s with heap := h', toks := tk' }) :
 wpAny (model rw_ar0036_02.row.prog w) ((Mine.Fa dp un (some []) l).deeper (envOf nm cs L fa cd)) (call (.ref 194) [.ref lp, .bool false, .str X ux]) Q E s := by
 obtain ⟨F, X, N, T, Fs, sub, hk, hdp, hun⟩ := H
 w_on
 w_strict (
  revert X
  k_fill
  intro X
  k_steps)
 all_goals first | exact (Str.ofString "") | exact (0 : Nat) | exact Value.none | skip
 all_goals first | (refine' hraise _ _ _ _ _ ?y0 ?y1 ?y2; (case y1 => assumption); (case y2 => assumption); (case y0 => first | trivial | (clear hret hraise; intro hall; simp_all; done) | (intro hall; simp_all; done))) | (exfalso; simp_all; done)
theorem Mine.cc_g1
 {dp un : Nat} {nm : Str} {cs : Scope} {fa : Addr} {cd : Value} {l : List Env} {h₀ : Heap} {L : Addr} {m : Str → Option Value} {news frs : Mine.Led} {s : Shared} {Q E : Value → Shared → Prop}
 {a : Int} {ua : Tok} {lp : Addr} {X : Str} {ux : Tok} (H : Mine.Here w h₀ L s.heap m news frs l p loose mean mg mb cs dp un 10) (hX : X.length ≤ 200)
 (hm : (lp, ({ cls := .type "tuple", data := .seq [Value.int a ua].toArray } : Obj)) ∈ news)
 (hret : 0 ≤ a → ∀ h' tk' nw, Fr h₀ L h' m → News h₀ L h' nw → (∀ p ∈ news, p ∈ nw) → (∀ p ∈ nw, p ∈ news ∨ ∀ r ∈ news, r.1 < p.1) → Q (.ref lp) { s with heap := h', toks := tk' })
 (hraise : ∀ e a0 h' tk' oL, ¬ (0 ≤ a) → Heap.FlyingW h₀ (envOf nm cs L fa cd :: l) e (.ref 224) a0 h' → Mine.Up ((L, oL) :: frs) h' → E (.ref e) { s with heap := h', toks := tk' }) :
 wpAny (model rw_ar0036_02.row.prog w) ((Mine.Fa dp un (some []) l).deeper (envOf nm cs L fa cd)) (call (.ref 194) [.ref lp, .bool true, .str X ux]) Q E s := by
 obtain ⟨F, X, N, T, Fs, sub, hk, hdp, hun⟩ := H
 w_on
 w_strict (
  revert X
  k_fill
  intro X
  k_steps)
 all_goals first | exact (Str.ofString "") | exact (0 : Nat) | exact Value.none | skip
 all_goals first | (refine' hret ?yg _ _ _ ?y1 ?y2 ?y3 ?y4; (case y1 => assumption); (case y2 => assumption); (case y3 => walk_at "mine sub2"); (case y4 => walk_at "mine fresh"); (case yg => (simp_all; done))) | (refine' hraise _ _ _ _ _ ?y0 ?y1 ?y2; (case y1 => assumption); (case y2 => assumption); (case y0 => first | trivial | (clear hret hraise; intro hall; simp_all; done) | (intro hall; simp_all; done))) | (exfalso; simp_all; done)
theorem Mine.cc_g2
 {dp un : Nat} {nm : Str} {cs : Scope} {fa : Addr} {cd : Value} {l : List Env} {h₀ : Heap} {L : Addr} {m : Str → Option Value} {news frs : Mine.Led} {s : Shared} {Q E : Value → Shared → Prop}
 {a : Int} {ua : Tok} {b : Int} {ub : Tok} {lp : Addr} {X : Str} {ux : Tok} (H : Mine.Here w h₀ L s.heap m news frs l p loose mean mg mb cs dp un 10) (hX : X.length ≤ 200)
 (hm : (lp, ({ cls := .type "tuple", data := .seq [Value.int a ua, Value.int b ub].toArray } : Obj)) ∈ news)
 (hraise : ∀ e a0 h' tk' oL, True → Heap.FlyingW h₀ (envOf nm cs L fa cd :: l) e (.ref 224) a0 h' → Mine.Up ((L, oL) :: frs) h' → E (.ref e) { s with heap := h', toks := tk' }) :
 wpAny (model rw_ar0036_02.row.prog w) ((Mine.Fa dp un (some []) l).deeper (envOf nm cs L fa cd)) (call (.ref 194) [.ref lp, .bool true, .str X ux]) Q E s := by
 obtain ⟨F, X, N, T, Fs, sub, hk, hdp, hun⟩ := H
 w_on
 w_strict (
  revert X
  k_fill
  intro X
  k_steps)
 all_goals first | exact (Str.ofString "") | exact (0 : Nat) | exact Value.none | skip
 all_goals first | (refine' hraise _ _ _ _ _ ?y0 ?y1 ?y2; (case y1 => assumption); (case y2 => assumption); (case y0 => first | trivial | (clear hret hraise; intro hall; simp_all; done) | (intro hall; simp_all; done))) | (exfalso; simp_all; done)
theorem Mine.k17 : True := by
 k_with "i45 call ref" => ((k_here; (with_reducible show wpAny _ _ (call (Value.ref 194) [Value.ref _, Value.bool _, Value.str _ _]) _ _ _); k_dflt ((first | (refine' Mine.cc_t3 ?H ?x ?m ?_ ?_; (case m => assumption)) | (refine' Mine.cc_t4 ?H ?x ?m ?_; (case m => assumption)) | (refine' Mine.cc_g1 ?H ?x ?m ?_ ?_; (case m => assumption)) | (refine' Mine.cc_g2 ?H ?x ?m ?_; (case m => assumption))); (case H => walk_at "mine here"); (case x => decide +kernel)); first | (intro g' h' tk' nw' F' N' s1' s2'; have sub5' := (fun p hp => s1' p (sub p hp) : ∀ p ∈ frs, p ∈ nw')) | (intro e' a0' h' tk' oL' bad' fl' up')))
 trivial
theorem Mine.init_s18t3
 {a : Int} {ua : Tok} {b : Int} {ub : Tok} {c : Int} {uc : Tok} {lp : Addr} (H : Mine.Here w h₀ L s.heap m news frs l p loose mean mg mb Mine.initScope dp un 10)
 (hm : (lp, ({ cls := .type "tuple", data := .seq [Value.int a ua, Value.int b ub, Value.int c uc].toArray } : Obj)) ∈ news) (v1 : m "transparent" = some (.ref lp)) (v2 : m "greyscale" = some (.bool false)) (hret : 0 ≤ a → 0 ≤ b → 0 ≤ c → ∀ h' tk' news', Fr h₀ L h' (fun y => if y = "transparent" then some (.ref lp) else m y) → News h₀ L h' news' → (∀ p ∈ news, p ∈ news') → (∀ p ∈ news', p ∈ news ∨ ∀ r ∈ news, r.1 < p.1) → Q .next { s with heap := h', toks := tk' }) (hraise : ∀ e a0 h' tk', ¬ (0 ≤ a ∧ 0 ≤ b ∧ 0 ≤ c) → Heap.FlyingW h₀ l e (.ref 224) a0 h' → Mine.Up frs h' → R (.error (.ref e)) { s with heap := h', toks := tk' }) :
 wpAny (model rw_ar0036_02.row.prog w) ((Mine.Fa dp un (some []) l).deeper (envOf nm Mine.initScope L fa cd)) (exec (Mine.initAt 18) (envOf nm Mine.initScope L fa cd)) Q (Mine.Out w ((Mine.Fa dp un (some []) l).deeper (envOf nm Mine.initScope L fa cd)) (envOf nm Mine.initScope L fa cd) R) s := by
 obtain ⟨F, X, N, T, Fs, sub, hk, hdp, hun⟩ := H
 (conv => arg 3; arg 1; whnf)
 walk_at "mine lit"
 w_on
 w_strict (
  revert X
  k_fill
  intro X
  
  k_steps)
 all_goals first | exact (Str.ofString "") | exact (0 : Nat) | exact Value.none | skip
 all_goals first | (refine' hret g'.1 g'.2.1 g'.2.2 _ _ _ ?y1 ?y2 ?y3 ?y4; (case y1 => assumption); (case y2 => assumption); (case y3 => assumption); (case y4 => assumption)) | (refine' hraise _ _ _ _ ?y0 ?y1 ?y2; (case y1 => assumption); (case y2 => assumption); (case y0 => first | trivial | assumption))
theorem Mine.init_s18t4
 {a : Int} {ua : Tok} {b : Int} {ub : Tok} {c : Int} {uc : Tok} {e : Int} {ue : Tok} {lp : Addr} (H : Mine.Here w h₀ L s.heap m news frs l p loose mean mg mb Mine.initScope dp un 10)
 (hm : (lp, ({ cls := .type "tuple", data := .seq [Value.int a ua, Value.int b ub, Value.int c uc, Value.int e ue].toArray } : Obj)) ∈ news) (v1 : m "transparent" = some (.ref lp)) (v2 : m "greyscale" = some (.bool false)) (hraise : ∀ e a0 h' tk', True → Heap.FlyingW h₀ l e (.ref 224) a0 h' → Mine.Up frs h' → R (.error (.ref e)) { s with heap := h', toks := tk' }) :
 wpAny (model rw_ar0036_02.row.prog w) ((Mine.Fa dp un (some []) l).deeper (envOf nm Mine.initScope L fa cd)) (exec (Mine.initAt 18) (envOf nm Mine.initScope L fa cd)) Q (Mine.Out w ((Mine.Fa dp un (some []) l).deeper (envOf nm Mine.initScope L fa cd)) (envOf nm Mine.initScope L fa cd) R) s := by
 obtain ⟨F, X, N, T, Fs, sub, hk, hdp, hun⟩ := H
 (conv => arg 3; arg 1; whnf)
 walk_at "mine lit"
 w_on
 w_strict (
  revert X
  k_fill
  intro X
  
  k_steps)
 all_goals first | exact (Str.ofString "") | exact (0 : Nat) | exact Value.none | skip
 all_goals (refine' hraise _ _ _ _ ?y0 ?y1 ?y2; (case y1 => assumption); (case y2 => assumption); (case y0 => first | trivial | assumption))
theorem Mine.init_s18g1
 {a : Int} {ua : Tok} {lp : Addr} (H : Mine.Here w h₀ L s.heap m news frs l p loose mean mg mb Mine.initScope dp un 10)
 (hm : (lp, ({ cls := .type "tuple", data := .seq [Value.int a ua].toArray } : Obj)) ∈ news) (v1 : m "transparent" = some (.ref lp)) (v2 : m "greyscale" = some (.bool true)) (hret : 0 ≤ a → ∀ h' tk' news', Fr h₀ L h' (fun y => if y = "transparent" then some (.ref lp) else m y) → News h₀ L h' news' → (∀ p ∈ news, p ∈ news') → (∀ p ∈ news', p ∈ news ∨ ∀ r ∈ news, r.1 < p.1) → Q .next { s with heap := h', toks := tk' }) (hraise : ∀ e a0 h' tk', ¬ (0 ≤ a) → Heap.FlyingW h₀ l e (.ref 224) a0 h' → Mine.Up frs h' → R (.error (.ref e)) { s with heap := h', toks := tk' }) :
 wpAny (model rw_ar0036_02.row.prog w) ((Mine.Fa dp un (some []) l).deeper (envOf nm Mine.initScope L fa cd)) (exec (Mine.initAt 18) (envOf nm Mine.initScope L fa cd)) Q (Mine.Out w ((Mine.Fa dp un (some []) l).deeper (envOf nm Mine.initScope L fa cd)) (envOf nm Mine.initScope L fa cd) R) s := by
 obtain ⟨F, X, N, T, Fs, sub, hk, hdp, hun⟩ := H
 (conv => arg 3; arg 1; whnf)
 walk_at "mine lit"
 w_on
 w_strict (
  revert X
  k_fill
  intro X
  
  k_steps)
 all_goals first | exact (Str.ofString "") | exact (0 : Nat) | exact Value.none | skip
 all_goals first | (refine' hret g' _ _ _ ?y1 ?y2 ?y3 ?y4; (case y1 => assumption); (case y2 => assumption); (case y3 => assumption); (case y4 => assumption)) | (refine' hraise _ _ _ _ ?y0 ?y1 ?y2; (case y1 => assumption); (case y2 => assumption); (case y0 => first | trivial | assumption))
theorem Mine.init_s18g2
 {a : Int} {ua : Tok} {b : Int} {ub : Tok} {lp : Addr} (H : Mine.Here w h₀ L s.heap m news frs l p loose mean mg mb Mine.initScope dp un 10)
 (hm : (lp, ({ cls := .type "tuple", data := .seq [Value.int a ua, Value.int b ub].toArray } : Obj)) ∈ news) (v1 : m "transparent" = some (.ref lp)) (v2 : m "greyscale" = some (.bool true)) (hraise : ∀ e a0 h' tk', True → Heap.FlyingW h₀ l e (.ref 224) a0 h' → Mine.Up frs h' → R (.error (.ref e)) { s with heap := h', toks := tk' }) :
 wpAny (model rw_ar0036_02.row.prog w) ((Mine.Fa dp un (some []) l).deeper (envOf nm Mine.initScope L fa cd)) (exec (Mine.initAt 18) (envOf nm Mine.initScope L fa cd)) Q (Mine.Out w ((Mine.Fa dp un (some []) l).deeper (envOf nm Mine.initScope L fa cd)) (envOf nm Mine.initScope L fa cd) R) s := by
 obtain ⟨F, X, N, T, Fs, sub, hk, hdp, hun⟩ := H
 (conv => arg 3; arg 1; whnf)
 walk_at "mine lit"
 w_on
 w_strict (
  revert X
  k_fill
  intro X
  
  k_steps)
 all_goals first | exact (Str.ofString "") | exact (0 : Nat) | exact Value.none | skip
 all_goals (refine' hraise _ _ _ _ ?y0 ?y1 ?y2; (case y1 => assumption); (case y2 => assumption); (case y0 => first | trivial | assumption))
theorem Mine.init_s19t3
 {a : Int} {ua : Tok} {b : Int} {ub : Tok} {c : Int} {uc : Tok} {lp : Addr} (H : Mine.Here w h₀ L s.heap m news frs l p loose mean mg mb Mine.initScope dp un 10)
 (hm : (lp, ({ cls := .type "tuple", data := .seq [Value.int a ua, Value.int b ub, Value.int c uc].toArray } : Obj)) ∈ news) (v1 : m "background" = some (.ref lp)) (v2 : m "greyscale" = some (.bool false)) (hret : 0 ≤ a → 0 ≤ b → 0 ≤ c → ∀ h' tk' news', Fr h₀ L h' (fun y => if y = "background" then some (.ref lp) else m y) → News h₀ L h' news' → (∀ p ∈ news, p ∈ news') → (∀ p ∈ news', p ∈ news ∨ ∀ r ∈ news, r.1 < p.1) → Q .next { s with heap := h', toks := tk' }) (hraise : ∀ e a0 h' tk', ¬ (0 ≤ a ∧ 0 ≤ b ∧ 0 ≤ c) → Heap.FlyingW h₀ l e (.ref 224) a0 h' → Mine.Up frs h' → R (.error (.ref e)) { s with heap := h', toks := tk' }) :
 wpAny (model rw_ar0036_02.row.prog w) ((Mine.Fa dp un (some []) l).deeper (envOf nm Mine.initScope L fa cd)) (exec (Mine.initAt 19) (envOf nm Mine.initScope L fa cd)) Q (Mine.Out w ((Mine.Fa dp un (some []) l).deeper (envOf nm Mine.initScope L fa cd)) (envOf nm Mine.initScope L fa cd) R) s := by
 obtain ⟨F, X, N, T, Fs, sub, hk, hdp, hun⟩ := H
 (conv => arg 3; arg 1; whnf)
 walk_at "mine lit"
 w_on
 w_strict (
  revert X
  k_fill
  intro X
  
  k_steps)
 all_goals first | exact (Str.ofString "") | exact (0 : Nat) | exact Value.none | skip
 all_goals first | (refine' hret g'.1 g'.2.1 g'.2.2 _ _ _ ?y1 ?y2 ?y3 ?y4; (case y1 => assumption); (case y2 => assumption); (case y3 => assumption); (case y4 => assumption)) | (refine' hraise _ _ _ _ ?y0 ?y1 ?y2; (case y1 => assumption); (case y2 => assumption); (case y0 => first | trivial | assumption))
theorem Mine.init_s19t4
 {a : Int} {ua : Tok} {b : Int} {ub : Tok} {c : Int} {uc : Tok} {e : Int} {ue : Tok} {lp : Addr} (H : Mine.Here w h₀ L s.heap m news frs l p loose mean mg mb Mine.initScope dp un 10)
 (hm : (lp, ({ cls := .type "tuple", data := .seq [Value.int a ua, Value.int b ub, Value.int c uc, Value.int e ue].toArray } : Obj)) ∈ news) (v1 : m "background" = some (.ref lp)) (v2 : m "greyscale" = some (.bool false)) (hraise : ∀ e a0 h' tk', True → Heap.FlyingW h₀ l e (.ref 224) a0 h' → Mine.Up frs h' → R (.error (.ref e)) { s with heap := h', toks := tk' }) :
 wpAny (model rw_ar0036_02.row.prog w) ((Mine.Fa dp un (some []) l).deeper (envOf nm Mine.initScope L fa cd)) (exec (Mine.initAt 19) (envOf nm Mine.initScope L fa cd)) Q (Mine.Out w ((Mine.Fa dp un (some []) l).deeper (envOf nm Mine.initScope L fa cd)) (envOf nm Mine.initScope L fa cd) R) s := by
 obtain ⟨F, X, N, T, Fs, sub, hk, hdp, hun⟩ := H
 (conv => arg 3; arg 1; whnf)
 walk_at "mine lit"
 w_on
 w_strict (
  revert X
  k_fill
  intro X
  
  k_steps)
 all_goals first | exact (Str.ofString "") | exact (0 : Nat) | exact Value.none | skip
 all_goals (refine' hraise _ _ _ _ ?y0 ?y1 ?y2; (case y1 => assumption); (case y2 => assumption); (case y0 => first | trivial | assumption))
theorem Mine.init_s19g1
 {a : Int} {ua : Tok} {lp : Addr} (H : Mine.Here w h₀ L s.heap m news frs l p loose mean mg mb Mine.initScope dp un 10)
 (hm : (lp, ({ cls := .type "tuple", data := .seq [Value.int a ua].toArray } : Obj)) ∈ news) (v1 : m "background" = some (.ref lp)) (v2 : m "greyscale" = some (.bool true)) (hret : 0 ≤ a → ∀ h' tk' news', Fr h₀ L h' (fun y => if y = "background" then some (.ref lp) else m y) → News h₀ L h' news' → (∀ p ∈ news, p ∈ news') → (∀ p ∈ news', p ∈ news ∨ ∀ r ∈ news, r.1 < p.1) → Q .next { s with heap := h', toks := tk' }) (hraise : ∀ e a0 h' tk', ¬ (0 ≤ a) → Heap.FlyingW h₀ l e (.ref 224) a0 h' → Mine.Up frs h' → R (.error (.ref e)) { s with heap := h', toks := tk' }) :
 wpAny (model rw_ar0036_02.row.prog w) ((Mine.Fa dp un (some []) l).deeper (envOf nm Mine.initScope L fa cd)) (exec (Mine.initAt 19) (envOf nm Mine.initScope L fa cd)) Q (Mine.Out w ((Mine.Fa dp un (some []) l).deeper (envOf nm Mine.initScope L fa cd)) (envOf nm Mine.initScope L fa cd) R) s := by
 obtain ⟨F, X, N, T, Fs, sub, hk, hdp, hun⟩ := H
 (conv => arg 3; arg 1; whnf)
 walk_at "mine lit"
 w_on
 w_strict (
  revert X
  k_fill
  intro X
  
  k_steps)
 all_goals first | exact (Str.ofString "") | exact (0 : Nat) | exact Value.none | skip
 all_goals first | (refine' hret g' _ _ _ ?y1 ?y2 ?y3 ?y4; (case y1 => assumption); (case y2 => assumption); (case y3 => assumption); (case y4 => assumption)) | (refine' hraise _ _ _ _ ?y0 ?y1 ?y2; (case y1 => assumption); (case y2 => assumption); (case y0 => first | trivial | assumption))
theorem Mine.init_s19g2
 {a : Int} {ua : Tok} {b : Int} {ub : Tok} {lp : Addr} (H : Mine.Here w h₀ L s.heap m news frs l p loose mean mg mb Mine.initScope dp un 10)
 (hm : (lp, ({ cls := .type "tuple", data := .seq [Value.int a ua, Value.int b ub].toArray } : Obj)) ∈ news) (v1 : m "background" = some (.ref lp)) (v2 : m "greyscale" = some (.bool true)) (hraise : ∀ e a0 h' tk', True → Heap.FlyingW h₀ l e (.ref 224) a0 h' → Mine.Up frs h' → R (.error (.ref e)) { s with heap := h', toks := tk' }) :
 wpAny (model rw_ar0036_02.row.prog w) ((Mine.Fa dp un (some []) l).deeper (envOf nm Mine.initScope L fa cd)) (exec (Mine.initAt 19) (envOf nm Mine.initScope L fa cd)) Q (Mine.Out w ((Mine.Fa dp un (some []) l).deeper (envOf nm Mine.initScope L fa cd)) (envOf nm Mine.initScope L fa cd) R) s := by
 obtain ⟨F, X, N, T, Fs, sub, hk, hdp, hun⟩ := H
 (conv => arg 3; arg 1; whnf)
 walk_at "mine lit"
 w_on
 w_strict (
  revert X
  k_fill
  intro X
  
  k_steps)
 all_goals first | exact (Str.ofString "") | exact (0 : Nat) | exact Value.none | skip
 all_goals (refine' hraise _ _ _ _ ?y0 ?y1 ?y2; (case y1 => assumption); (case y2 => assumption); (case y0 => first | trivial | assumption))
end
section
variable {w : World} {p : Program} {loose : List Str} {mean : ExcName → Option Value} {mg mb : Str → Option Value}
variable {dp un : Nat} {nm : Str} {fa : Addr} {cd : Value} {l : List Env} {h₀ : Heap} {L : Addr} {m : Str → Option Value} {news frs : Mine.Led} {s : Shared} {Q : Flow → Shared → Prop} {R : Result → Shared → Prop}
theorem Mine.init_s1a
 {x y : Int} {t1 t2 : Tok} (H : Mine.Here w h₀ L s.heap m news frs l p loose mean mg mb Mine.initScope dp un 8)
 (v1 : m "size" = some .none) (v2 : m "width" = some (.int x t1)) (v3 : m "height" = some (.int y t2)) (hret : ∀ u1 u2 h' tk', Fr h₀ L h' (fun y' => if y' = "height" then some (.int y u2) else if y' = "width" then some (.int x u1) else m y') → News h₀ L h' news → Q .next { s with heap := h', toks := tk' }) :
 wpAny (model rw_ar0036_02.row.prog w) ((Mine.Fa dp un (some []) l).deeper (envOf nm Mine.initScope L fa cd)) (exec (Mine.initAt 0) (envOf nm Mine.initScope L fa cd)) Q (Mine.Out w ((Mine.Fa dp un (some []) l).deeper (envOf nm Mine.initScope L fa cd)) (envOf nm Mine.initScope L fa cd) R) s := by
 obtain ⟨F, X, N, T, Fs, sub, hk, hdp, hun⟩ := H
 (conv => arg 3; arg 1; whnf)
 walk_at "mine lit"
 w_on
 w_strict (
  revert X
  k_fill
  intro X
  
  k_steps)
 all_goals exact hret _ _ _ _ (by assumption) (cb_drop (by assumption) (by walk_at "mine sub2"))
theorem Mine.init_s1b
 {x y : Int} {t1 t2 : Tok} {sz : Addr} (H : Mine.Here w h₀ L s.heap m news frs l p loose mean mg mb Mine.initScope dp un 8)
 (hm : (sz, ({ cls := .type "tuple", data := .seq [.int x t1, .int y t2].toArray } : Obj)) ∈ news) (v1 : m "size" = some (.ref sz)) (v2 : m "width" = some .none) (v3 : m "height" = some .none) (hret : ∀ u1 u2 h' tk', Fr h₀ L h' (fun y' => if y' = "height" then some (.int y u2) else if y' = "width" then some (.int x u1) else m y') → News h₀ L h' news → Q .next { s with heap := h', toks := tk' }) :
 wpAny (model rw_ar0036_02.row.prog w) ((Mine.Fa dp un (some []) l).deeper (envOf nm Mine.initScope L fa cd)) (exec (Mine.initAt 0) (envOf nm Mine.initScope L fa cd)) Q (Mine.Out w ((Mine.Fa dp un (some []) l).deeper (envOf nm Mine.initScope L fa cd)) (envOf nm Mine.initScope L fa cd) R) s := by
 obtain ⟨F, X, N, T, Fs, sub, hk, hdp, hun⟩ := H
 (conv => arg 3; arg 1; whnf)
 walk_at "mine lit"
 w_on
 w_strict (
  revert X
  k_fill
  intro X
  
  k_steps)
 all_goals exact hret _ _ _ _ (by assumption) (cb_drop (by assumption) (by walk_at "mine sub2"))
theorem Mine.init_s1c
 {x y x' y' : Int} {t1 t2 t3 t4 : Tok} {sz : Addr} (H : Mine.Here w h₀ L s.heap m news frs l p loose mean mg mb Mine.initScope dp un 8)
 (hm : (sz, ({ cls := .type "tuple", data := .seq [.int x t1, .int y t2].toArray } : Obj)) ∈ news) (v1 : m "size" = some (.ref sz)) (v2 : m "width" = some (.int x' t3)) (v3 : m "height" = some (.int y' t4)) (b0a : -10000000000 < x) (b0b : x < 10000000000) (b1a : -10000000000 < y) (b1b : y < 10000000000) (b2a : -10000000000 < x') (b2b : x' < 10000000000) (b3a : -10000000000 < y') (b3b : y' < 10000000000) (hret : x' = x → y' = y → ∀ u1 u2 h' tk', Fr h₀ L h' (fun y' => if y' = "height" then some (.int y u2) else if y' = "width" then some (.int x u1) else m y') → News h₀ L h' news → Q .next { s with heap := h', toks := tk' }) (hraise : ∀ e a0 h' tk', (x' ≠ x ∨ y' ≠ y) → Heap.FlyingW h₀ l e (.ref 224) a0 h' → Mine.Up frs h' → R (.error (.ref e)) { s with heap := h', toks := tk' }) :
 wpAny (model rw_ar0036_02.row.prog w) ((Mine.Fa dp un (some []) l).deeper (envOf nm Mine.initScope L fa cd)) (exec (Mine.initAt 0) (envOf nm Mine.initScope L fa cd)) Q (Mine.Out w ((Mine.Fa dp un (some []) l).deeper (envOf nm Mine.initScope L fa cd)) (envOf nm Mine.initScope L fa cd) R) s := by
 obtain ⟨F, X, N, T, Fs, sub, hk, hdp, hun⟩ := H
 (conv => arg 3; arg 1; whnf)
 walk_at "mine lit"
 w_on
 w_strict (
  revert X
  k_fill
  intro X
  
  k_steps)
 all_goals first
  | (exact hret (by first | assumption | (simp_all; done) | omega) (by first | assumption | (simp_all; done) | omega) _ _ _ _ (by assumption) (cb_drop (by assumption) (by walk_at "mine sub2")))
  | (exact hraise _ _ _ _ (by first | omega | (simp_all; done)) (by assumption) (by assumption))
theorem Mine.init_s1d
 {x y z : Int} {t1 t2 t3 : Tok} {sz : Addr} (H : Mine.Here w h₀ L s.heap m news frs l p loose mean mg mb Mine.initScope dp un 8)
 (hm : (sz, ({ cls := .type "tuple", data := .seq [.int x t1, .int y t2, .int z t3].toArray } : Obj)) ∈ news) (v1 : m "size" = some (.ref sz)) (v2 : m "width" = some .none) (v3 : m "height" = some .none) (b0a : -10000000000 < x) (b0b : x < 10000000000) (b1a : -10000000000 < y) (b1b : y < 10000000000) (b2a : -10000000000 < z) (b2b : z < 10000000000) (hraise : ∀ e a0 h' tk', True → Heap.FlyingW h₀ l e (.ref 224) a0 h' → Mine.Up frs h' → R (.error (.ref e)) { s with heap := h', toks := tk' }) :
 wpAny (model rw_ar0036_02.row.prog w) ((Mine.Fa dp un (some []) l).deeper (envOf nm Mine.initScope L fa cd)) (exec (Mine.initAt 0) (envOf nm Mine.initScope L fa cd)) Q (Mine.Out w ((Mine.Fa dp un (some []) l).deeper (envOf nm Mine.initScope L fa cd)) (envOf nm Mine.initScope L fa cd) R) s := by
 obtain ⟨F, X, N, T, Fs, sub, hk, hdp, hun⟩ := H
 (conv => arg 3; arg 1; whnf)
 walk_at "mine lit"
 w_on
 w_strict (
  revert X
  k_fill
  intro X
  
  k_steps)
 all_goals (exact hraise _ _ _ _ trivial (by assumption) (by assumption))
end
section
variable {w : World} {p : Program} {loose : List Str} {mean : ExcName → Option Value} {mg mb : Str → Option Value}
variable {dp un : Nat} {nm : Str} {fa : Addr} {cd : Value} {l : List Env} {h₀ : Heap} {L : Addr} {m : Str → Option Value} {news frs : Mine.Led} {s : Shared} {Q : Flow → Shared → Prop} {R : Result → Shared → Prop}
theorem Mine.normT {α : Type} {M : Model} {A : Around} {T : Sem α} {Q : α → Shared → Prop} {E : Value → Shared → Prop} {S : Shared} {h₀ h : Heap} {L : Addr} {m : Str → Option Value} (s : Shared) (_F : Fr h₀ L h m) (eh : S.heap = h) (eg : S.gens = s.gens) (ed : S.drawn = s.drawn) (eo : S.os = s.os)
    (k : ∀ t, wpAny M A T Q E { s with heap := h, toks := t }) : wpAny M A T Q E S := by
  obtain ⟨h', g, d, t, o⟩ := S
  dsimp only at eh eg ed eo
  subst eh eg ed eo
  exact k t
local macro_rules | `(tactic| walk_at $s:str) => Mine.hand "i47 " s
theorem Mine.k18 : True := by
 k_with "i47 execs cons" => ((walk_at "mine norm"; refine wpAny_execs_cons ?_))
 k_with "i47 eval Name" => ((k_here; (with_reducible show wpAny _ _ (eval (Expr.Name _ _) (envOf _ _ _ _ _)) _ _ _); (try walk_at "mine norm"); k_dflt (refine' ld ?k157q ?k257q ?_; (case k157q => k_asm); (case k257q => walk_at "mine look"); k_whole)))
 k_with "i47 eval Name" => ((k_here; (with_reducible show wpAny _ _ (eval (Expr.Name _ _) (envOfC _ _ _ _ _)) _ _ _); (try walk_at "mine norm"); k_dflt (first | (refine' nameX_L ?k158q ?k258q ?_ ?k458q ?k558q; (case k458q => rfl); (case k558q => rfl); (case k158q => k_asm); (case k258q => walk_at "mine look"); k_whole) | (refine' nameX_C ?N58q ?c58q ?m58q ?d58q ?_ ?a58q ?b58q; (case a58q => rfl); (case b58q => rfl); (case N58q => k_asm); (case c58q => rfl); (case m58q => k_mem); (case d58q => k_asm); k_whole))))
 k_with "i47 loadName" => ((k_here; (try walk_at "mine norm"); k_dflt (refine' ldn ?k159q ?k259q ?_; (case k159q => k_asm); (case k259q => walk_at "mine look"); k_whole)))
 k_with "i47 mine norm" => ((k_dflt (refine' Mine.normT ?s60q ?F60q ?eh60q ?eg60q ?ed60q ?eo60q ?_; (case s60q => assumption); (case F60q => k_asm); (case eh60q => rfl); (case eg60q => rfl); (case ed60q => rfl); (case eo60q => rfl)); intro t'60q))
 trivial
theorem Mine.init_d1
 {v : Value} (H : Mine.Here w h₀ L s.heap m news frs l p loose mean mg mb Mine.initScope dp un 6)
 (v1 : m "size" = some v) (hret : ∀ u h' tk', Fr h₀ L h' (fun y => if y = "size" then u else m y) → News h₀ L h' news → Q .next { s with heap := h', toks := tk' }) :
 wpAny (model rw_ar0036_02.row.prog w) ((Mine.Fa dp un (some []) l).deeper (envOf nm Mine.initScope L fa cd)) (exec (Mine.initAt 1) (envOf nm Mine.initScope L fa cd)) Q (Mine.Out w ((Mine.Fa dp un (some []) l).deeper (envOf nm Mine.initScope L fa cd)) (envOf nm Mine.initScope L fa cd) R) s := by
 obtain ⟨F, X, N, T, Fs, sub, hk, hdp, hun⟩ := H
 (conv => arg 3; arg 1; whnf)
 walk_at "mine lit"
 w_on
 w_strict (
  revert X
  k_fill
  intro X
  
  k_steps)
 all_goals exact hret _ _ _ (by assumption) (by assumption)
theorem Mine.init_s2
 {x y : Int} {t1 t2 : Tok} (H : Mine.Here w h₀ L s.heap m news frs l p loose mean mg mb Mine.initScope dp un 6)
 (v2 : m "width" = some (.int x t1)) (v3 : m "height" = some (.int y t2)) (hret : (0 ≤ x ∧ 0 ≤ y) → ∀ h' tk', Fr h₀ L h' m → News h₀ L h' news → Q .next { s with heap := h', toks := tk' }) (hraise : ∀ e a0 h' tk', ¬ (0 ≤ x ∧ 0 ≤ y) → Heap.FlyingW h₀ l e (.ref 224) a0 h' → Mine.Up frs h' → R (.error (.ref e)) { s with heap := h', toks := tk' }) :
 wpAny (model rw_ar0036_02.row.prog w) ((Mine.Fa dp un (some []) l).deeper (envOf nm Mine.initScope L fa cd)) (exec (Mine.initAt 2) (envOf nm Mine.initScope L fa cd)) Q (Mine.Out w ((Mine.Fa dp un (some []) l).deeper (envOf nm Mine.initScope L fa cd)) (envOf nm Mine.initScope L fa cd) R) s := by
 obtain ⟨F, X, N, T, Fs, sub, hk, hdp, hun⟩ := H
 (conv => arg 3; arg 1; whnf)
 walk_at "mine lit"
 w_on
 w_strict (
  revert X
  k_fill
  intro X
  
  k_steps)
 all_goals first
  | (exact hret (by first | trivial | omega | (simp_all; done) | (simp_all; omega)) _ _ (by assumption) (cb_drop (by assumption) (by walk_at "mine sub2")))
  | (exact hraise _ _ _ _ (by first | trivial | omega | (simp_all; done) | (simp_all; omega)) (by assumption) (by assumption))
  | (exfalso; simp_all; omega)
theorem Mine.init_s3
 {x y : Int} {t1 t2 : Tok} (H : Mine.Here w h₀ L s.heap m news frs l p loose mean mg mb Mine.initScope dp un 6)
 (v2 : m "width" = some (.int x t1)) (v3 : m "height" = some (.int y t2)) (hret : (0 < x ∧ 0 < y) → ∀ h' tk', Fr h₀ L h' m → News h₀ L h' news → Q .next { s with heap := h', toks := tk' }) (hraise : ∀ e a0 h' tk', ¬ (0 < x ∧ 0 < y) → Heap.FlyingW h₀ l e (.ref 224) a0 h' → Mine.Up frs h' → R (.error (.ref e)) { s with heap := h', toks := tk' }) :
 wpAny (model rw_ar0036_02.row.prog w) ((Mine.Fa dp un (some []) l).deeper (envOf nm Mine.initScope L fa cd)) (exec (Mine.initAt 3) (envOf nm Mine.initScope L fa cd)) Q (Mine.Out w ((Mine.Fa dp un (some []) l).deeper (envOf nm Mine.initScope L fa cd)) (envOf nm Mine.initScope L fa cd) R) s := by
 obtain ⟨F, X, N, T, Fs, sub, hk, hdp, hun⟩ := H
 (conv => arg 3; arg 1; whnf)
 walk_at "mine lit"
 w_on
 w_strict (
  revert X
  k_fill
  intro X
  
  k_steps)
 all_goals first
  | (exact hret (by first | trivial | omega | (simp_all; done) | (simp_all; omega)) _ _ (by assumption) (cb_drop (by assumption) (by walk_at "mine sub2")))
  | (exact hraise _ _ _ _ (by first | trivial | omega | (simp_all; done) | (simp_all; omega)) (by assumption) (by assumption))
  | (exfalso; simp_all; omega)
theorem Mine.init_s4
 {x y B31 : Int} {t1 t2 : Tok} (H : Mine.Here w h₀ L s.heap m news frs l p loose mean mg mb Mine.initScope dp un 6)
 (hB31 : B31 = 2147483648) (v2 : m "width" = some (.int x t1)) (v3 : m "height" = some (.int y t2)) (hret : (x ≤ 2147483647 ∧ y ≤ 2147483647) → ∀ h' tk', Fr h₀ L h' m → News h₀ L h' news → Q .next { s with heap := h', toks := tk' }) (hraise : ∀ e a0 h' tk', ¬ (x ≤ 2147483647 ∧ y ≤ 2147483647) → Heap.FlyingW h₀ l e (.ref 224) a0 h' → Mine.Up frs h' → R (.error (.ref e)) { s with heap := h', toks := tk' }) :
 wpAny (model rw_ar0036_02.row.prog w) ((Mine.Fa dp un (some []) l).deeper (envOf nm Mine.initScope L fa cd)) (exec (Mine.initAt 4) (envOf nm Mine.initScope L fa cd)) Q (Mine.Out w ((Mine.Fa dp un (some []) l).deeper (envOf nm Mine.initScope L fa cd)) (envOf nm Mine.initScope L fa cd) R) s := by
 obtain ⟨F, X, N, T, Fs, sub, hk, hdp, hun⟩ := H
 (conv => arg 3; arg 1; whnf)
 walk_at "mine lit"
 w_on
 w_strict (
  revert X
  k_fill
  intro X
  
  k_steps)
 all_goals first
  | (exact hret (by first | trivial | omega | (simp_all; done) | (simp_all; omega)) _ _ (by assumption) (cb_drop (by assumption) (by walk_at "mine sub2")))
  | (exact hraise _ _ _ _ (by first | trivial | omega | (simp_all; done) | (simp_all; omega)) (by assumption) (by assumption))
  | (exfalso; simp_all; omega)
theorem Mine.init_s5n
 {al : Bool} (H : Mine.Here w h₀ L s.heap m news frs l p loose mean mg mb Mine.initScope dp un 6)
 (v2 : m "alpha" = some (.bool al)) (v3 : m "transparent" = some .none) (hret : True → ∀ h' tk', Fr h₀ L h' m → News h₀ L h' news → Q .next { s with heap := h', toks := tk' }) (hraise : ∀ e a0 h' tk', False → Heap.FlyingW h₀ l e (.ref 224) a0 h' → Mine.Up frs h' → R (.error (.ref e)) { s with heap := h', toks := tk' }) :
 wpAny (model rw_ar0036_02.row.prog w) ((Mine.Fa dp un (some []) l).deeper (envOf nm Mine.initScope L fa cd)) (exec (Mine.initAt 5) (envOf nm Mine.initScope L fa cd)) Q (Mine.Out w ((Mine.Fa dp un (some []) l).deeper (envOf nm Mine.initScope L fa cd)) (envOf nm Mine.initScope L fa cd) R) s := by
 obtain ⟨F, X, N, T, Fs, sub, hk, hdp, hun⟩ := H
 (conv => arg 3; arg 1; whnf)
 walk_at "mine lit"
 w_on
 w_strict (
  revert X
  k_fill
  intro X
  
  k_steps)
 all_goals first
  | (exact hret (by first | trivial | omega | (simp_all; done) | (simp_all; omega)) _ _ (by assumption) (cb_drop (by assumption) (by walk_at "mine sub2")))
  | (exact hraise _ _ _ _ (by first | trivial | omega | (simp_all; done) | (simp_all; omega)) (by assumption) (by assumption))
  | (exfalso; simp_all; omega)
theorem Mine.init_s5i
 {al : Bool} {c : Int} {t1 : Tok} (H : Mine.Here w h₀ L s.heap m news frs l p loose mean mg mb Mine.initScope dp un 6)
 (v2 : m "alpha" = some (.bool al)) (v3 : m "transparent" = some (.int c t1)) (hret : (al = false) → ∀ h' tk', Fr h₀ L h' m → News h₀ L h' news → Q .next { s with heap := h', toks := tk' }) (hraise : ∀ e a0 h' tk', al = true → Heap.FlyingW h₀ l e (.ref 224) a0 h' → Mine.Up frs h' → R (.error (.ref e)) { s with heap := h', toks := tk' }) :
 wpAny (model rw_ar0036_02.row.prog w) ((Mine.Fa dp un (some []) l).deeper (envOf nm Mine.initScope L fa cd)) (exec (Mine.initAt 5) (envOf nm Mine.initScope L fa cd)) Q (Mine.Out w ((Mine.Fa dp un (some []) l).deeper (envOf nm Mine.initScope L fa cd)) (envOf nm Mine.initScope L fa cd) R) s := by
 obtain ⟨F, X, N, T, Fs, sub, hk, hdp, hun⟩ := H
 (conv => arg 3; arg 1; whnf)
 walk_at "mine lit"
 w_on
 w_strict (
  revert X
  k_fill
  intro X
  
  k_steps)
 all_goals first
  | (exact hret (by first | trivial | omega | (simp_all; done) | (simp_all; omega)) _ _ (by assumption) (cb_drop (by assumption) (by walk_at "mine sub2")))
  | (exact hraise _ _ _ _ (by first | trivial | omega | (simp_all; done) | (simp_all; omega)) (by assumption) (by assumption))
  | (exfalso; simp_all; omega)
theorem Mine.init_s5r
 {al : Bool} {c : Addr} (H : Mine.Here w h₀ L s.heap m news frs l p loose mean mg mb Mine.initScope dp un 6)
 (v2 : m "alpha" = some (.bool al)) (v3 : m "transparent" = some (.ref c)) (hret : (al = false) → ∀ h' tk', Fr h₀ L h' m → News h₀ L h' news → Q .next { s with heap := h', toks := tk' }) (hraise : ∀ e a0 h' tk', al = true → Heap.FlyingW h₀ l e (.ref 224) a0 h' → Mine.Up frs h' → R (.error (.ref e)) { s with heap := h', toks := tk' }) :
 wpAny (model rw_ar0036_02.row.prog w) ((Mine.Fa dp un (some []) l).deeper (envOf nm Mine.initScope L fa cd)) (exec (Mine.initAt 5) (envOf nm Mine.initScope L fa cd)) Q (Mine.Out w ((Mine.Fa dp un (some []) l).deeper (envOf nm Mine.initScope L fa cd)) (envOf nm Mine.initScope L fa cd) R) s := by
 obtain ⟨F, X, N, T, Fs, sub, hk, hdp, hun⟩ := H
 (conv => arg 3; arg 1; whnf)
 walk_at "mine lit"
 w_on
 w_strict (
  revert X
  k_fill
  intro X
  
  k_steps)
 all_goals first
  | (exact hret (by first | trivial | omega | (simp_all; done) | (simp_all; omega)) _ _ (by assumption) (cb_drop (by assumption) (by walk_at "mine sub2")))
  | (exact hraise _ _ _ _ (by first | trivial | omega | (simp_all; done) | (simp_all; omega)) (by assumption) (by assumption))
  | (exfalso; simp_all; omega)
end
section
variable {w : World} {p : Program} {loose : List Str} {mean : ExcName → Option Value} {mg mb : Str → Option Value}
variable {dp un : Nat} {nm : Str} {fa : Addr} {cd : Value} {l : List Env} {h₀ : Heap} {L : Addr} {m : Str → Option Value} {news frs : Mine.Led} {s : Shared} {Q : Flow → Shared → Prop} {R : Result → Shared → Prop}
theorem Mine.init_s6t
 {c : Addr} {vs : List Value} (H : Mine.Here w h₀ L s.heap m news frs l p loose mean mg mb Mine.initScope dp un 6)
 (hm : (c, ({ cls := .type "tuple", data := .seq vs.toArray } : Obj)) ∈ news) (hl : vs.length ≤ 8) (v2 : m "bitdepth" = some (.ref c)) (hret : ∀ h' tk', Fr h₀ L h' m → News h₀ L h' news → Q .next { s with heap := h', toks := tk' }) :
 wpAny (model rw_ar0036_02.row.prog w) ((Mine.Fa dp un (some []) l).deeper (envOf nm Mine.initScope L fa cd)) (exec (Mine.initAt 6) (envOf nm Mine.initScope L fa cd)) Q (Mine.Out w ((Mine.Fa dp un (some []) l).deeper (envOf nm Mine.initScope L fa cd)) (envOf nm Mine.initScope L fa cd) R) s := by
 obtain ⟨F, X, N, T, Fs, sub, hk, hdp, hun⟩ := H
 (conv => arg 3; arg 1; whnf)
 walk_at "mine lit"
 w_on
 w_strict (
  revert X
  k_fill
  intro X
  
  k_steps)
 all_goals (exact hret _ _ (by assumption) (by assumption))
theorem Mine.init_s6i
  {c : Int} {t1 : Tok} {new : Mine.Led} (H : Mine.Here w h₀ L s.heap m news frs l p loose mean mg mb Mine.initScope dp un 6)
  (hnew : news = new ++ frs) (hap : ∀ p ∈ new, p.1 ∉ L :: frs.map (·.1)) (v2 : m "bitdepth" = some (.int c t1)) (hret : ∀ a u frs' h' tk', SameUp frs frs' → Frs l frs' → (∀ q ∈ new ++ frs', q.1 < a) → Fr h₀ L h' (fun y => if y = "bitdepth" then some (.ref a) else m y) → News h₀ L h' ((a, ({ cls := .type "tuple", data := .seq [Value.int c u].toArray } : Obj)) :: (new ++ frs')) → Q .next { s with heap := h', toks := tk' }) :
  wpAny (model rw_ar0036_02.row.prog w) ((Mine.Fa dp un (some []) l).deeper (envOf nm Mine.initScope L fa cd)) (exec (Mine.initAt 6) (envOf nm Mine.initScope L fa cd)) Q (Mine.Out w ((Mine.Fa dp un (some []) l).deeper (envOf nm Mine.initScope L fa cd)) (envOf nm Mine.initScope L fa cd) R) s := by
  subst hnew
  obtain ⟨F, X, N, T, Fs, sub, hk, hdp, hun⟩ := H
  (conv => arg 3; arg 1; whnf)
  walk_at "mine lit"
  w_on
  w_strict (
   revert X
   k_fill
   intro X
   
   k_steps)
  all_goals (exact hret _ _ _ _ _ (by assumption) (by assumption) (by assumption) (by assumption) (by assumption))
end
section
theorem Mine.init_s7 {w : World} {p : Program} {loose : List Str} {mean : ExcName → Option Value} {mg mb : Str → Option Value}
  {dp un : Nat} {nm : Str} {fa : Addr} {cd : Value} {l : List Env} {h₀ : Heap} {L : Addr} {m : Str → Option Value} {news frs : Mine.Led} {s : Shared} {Q : Flow → Shared → Prop} {R : Result → Shared → Prop}
  {ns : List Int} {vs : List Value} {c : Addr} (H : Mine.Here w h₀ L s.heap m news frs l p loose mean mg mb Mine.initScope dp un 6)
  (hm : (c, ({ cls := .type "tuple", data := .seq vs.toArray } : Obj)) ∈ news) (hi : IntsAre vs ns) (hne : ns ≠ []) (hlen : ns.length ≤ 6) (hbn : ∀ n ∈ ns, -10000000000 < n ∧ n < 10000000000) (v2 : m "bitdepth" = some (.ref c)) (hret : (∀ n ∈ ns, 1 ≤ n ∧ n ≤ 16) → ∀ m' h' tk', (∀ y : PySem.Str, y ≠ "valid" → y ≠ "b" → m' y = m y) → Fr h₀ L h' m' → News h₀ L h' news → Q .next { s with heap := h', toks := tk' }) (hraise : ∀ e a0 h' tk', ¬ (∀ n ∈ ns, 1 ≤ n ∧ n ≤ 16) → Heap.FlyingW h₀ l e (.ref 224) a0 h' → Mine.Up frs h' → R (.error (.ref e)) { s with heap := h', toks := tk' }) :
  wpAny (model rw_ar0036_02.row.prog w) ((Mine.Fa dp un (some []) l).deeper (envOf nm Mine.initScope L fa cd)) (exec (Mine.initAt 7) (envOf nm Mine.initScope L fa cd)) Q (Mine.Out w ((Mine.Fa dp un (some []) l).deeper (envOf nm Mine.initScope L fa cd)) (envOf nm Mine.initScope L fa cd) R) s := by
  obtain ⟨F, X, N, T, Fs, sub, hk, hdp, hun⟩ := H
  (conv => arg 3; arg 1; whnf)
  walk_at "mine lit"
  w_on
  revert X
  k_fill
  intro X
  refine Mine.for_tup (J := fun i m₁ => (∀ k, k < i → ∀ n, ns[k]? = some n → 1 ≤ n ∧ n ≤ 16) ∧ ∀ y : PySem.Str, y ≠ "valid" → y ≠ "b" → m₁ y = m y) F N hm rfl rfl rfl (fun Q' hq => ld F v2 hq) ⟨fun k hk => absurd hk (Nat.not_lt_zero _), fun _ _ _ => rfl⟩ ?_ ?_
  · intro i v m₁ h tk I o hv hJ hlt F N
    obtain ⟨hJ1, hJ2⟩ := hJ
    have hil : i < ns.length := by rw [← hi.length]; exact (List.getElem?_eq_some_iff.mp hv).1
    obtain ⟨t9, hx9⟩ := hi.get i (ns[i]'hil) (List.getElem?_eq_getElem hil)
    have hv9 : v = .int (ns[i]'hil) t9 := by rw [hx9] at hv; exact (Option.some.inj hv).symm
    subst hv9
    have hm' : (c, ({ cls := .type "tuple", data := .seq vs.toArray } : Obj)) ∈ news := hm
    have v2' : m₁ "bitdepth" = some (.ref c) := (hJ2 _ (by decide) (by decide)).trans v2
    have hmem : ns[i]'hil ∈ ns := List.getElem_mem hil
    have hb9 := hbn _ hmem
    have e9 : ns[i]? = some (ns[i]'hil) := List.getElem?_eq_getElem hil
    generalize ns[i]'hil = n at *
    w_strict k_steps
    all_goals first
      | (refine hraise _ _ _ _ (fun hall => ?_) (by assumption) (by assumption)
         have h9 := hall _ hmem
         first
         | omega
         | (rename (_ : Bool) = decide _ => hq
            have hq2 : decide (0 ≤ n) = true := decide_eq_true (by omega)
            rw [hq2] at hq
            subst hq
            first | (rename ¬ (true = true) => ha; exact ha rfl) | (rename true = false => ha; cases ha) | contradiction))
      | (refine ⟨rfl, _, _, _, rfl, by assumption, by assumption, fun k hk n' hn' => ?_, fun y h1 h2 => ?_⟩
         · by_cases hki : k = i
           · subst hki; rw [e9] at hn'; obtain rfl := Option.some.inj hn'; first | omega | (simp_all; omega)
           · exact hJ1 k (by omega) n' hn'
         · (try dsimp only); rw [if_neg h1, if_neg h2]; exact hJ2 y h1 h2)
  · intro h' tk' m' hJ F' N'
    refine hret (fun n hn => ?_) m' h' tk' hJ.2 F' N'
    obtain ⟨k, hk, rfl⟩ := List.getElem_of_mem hn
    exact hJ.1 k (by rw [hi.length]; exact hk) _ (List.getElem?_eq_getElem hk)
end
section
variable {w : World} {p : Program} {loose : List Str} {mean : ExcName → Option Value} {mg mb : Str → Option Value}
variable {dp un : Nat} {nm : Str} {fa : Addr} {cd : Value} {l : List Env} {h₀ : Heap} {L : Addr} {m : Str → Option Value} {news frs : Mine.Led} {s : Shared} {Q : Flow → Shared → Prop} {R : Result → Shared → Prop}
theorem Mine.init_s9
 {al : Bool} (H : Mine.Here w h₀ L s.heap m news frs l p loose mean mg mb Mine.initScope dp un 6)
 (v1 : m "alpha" = some (.bool al)) (hret : ∀ h' tk', Fr h₀ L h' (fun y => if y = "alpha" then some (Value.bool al) else m y) → News h₀ L h' news → Q .next { s with heap := h', toks := tk' }) :
 wpAny (model rw_ar0036_02.row.prog w) ((Mine.Fa dp un (some []) l).deeper (envOf nm Mine.initScope L fa cd)) (exec (Mine.initAt 9) (envOf nm Mine.initScope L fa cd)) Q (Mine.Out w ((Mine.Fa dp un (some []) l).deeper (envOf nm Mine.initScope L fa cd)) (envOf nm Mine.initScope L fa cd) R) s := by
 obtain ⟨F, X, N, T, Fs, sub, hk, hdp, hun⟩ := H
 (conv => arg 3; arg 1; whnf)
 walk_at "mine lit"
 w_on
 w_strict (
  revert X
  k_fill
  intro X
  
  k_steps)
 all_goals (try (have he9 : (!vs.isEmpty) = true := by cases vs with
                                                     | nil => exact absurd rfl hv
                                                     | cons _ _ => rfl))
 all_goals (try simp only [he9] at *)
 all_goals first | (exact hret _ _ (by assumption) (cb_drop (by assumption) (by walk_at "mine sub2"))) | (exfalso; simp_all; done)
theorem Mine.init_s10n
  (H : Mine.Here w h₀ L s.heap m news frs l p loose mean mg mb Mine.initScope dp un 6)
 (v1 : m "palette" = some .none) (hret : ∀ h' tk', Fr h₀ L h' (fun y => if y = "colormap" then some (Value.bool false) else m y) → News h₀ L h' news → Q .next { s with heap := h', toks := tk' }) :
 wpAny (model rw_ar0036_02.row.prog w) ((Mine.Fa dp un (some []) l).deeper (envOf nm Mine.initScope L fa cd)) (exec (Mine.initAt 10) (envOf nm Mine.initScope L fa cd)) Q (Mine.Out w ((Mine.Fa dp un (some []) l).deeper (envOf nm Mine.initScope L fa cd)) (envOf nm Mine.initScope L fa cd) R) s := by
 obtain ⟨F, X, N, T, Fs, sub, hk, hdp, hun⟩ := H
 (conv => arg 3; arg 1; whnf)
 walk_at "mine lit"
 w_on
 w_strict (
  revert X
  k_fill
  intro X
  
  k_steps)
 all_goals (try (have he9 : (!vs.isEmpty) = true := by cases vs with
                                                     | nil => exact absurd rfl hv
                                                     | cons _ _ => rfl))
 all_goals (try simp only [he9] at *)
 all_goals first | (exact hret _ _ (by assumption) (cb_drop (by assumption) (by walk_at "mine sub2"))) | (exfalso; simp_all; done)
theorem Mine.init_s10r
 {lp : Addr} {vs : List Value} {n : Nat} (H : Mine.Here w h₀ L s.heap m news frs l p loose mean mg mb Mine.initScope dp un 6)
 (hl : (lp, listOf vs.toArray n) ∈ news) (hv : vs ≠ []) (hlv : vs.length ≤ 300) (v1 : m "palette" = some (.ref lp)) (hret : ∀ h' tk', Fr h₀ L h' (fun y => if y = "colormap" then some (Value.bool true) else m y) → News h₀ L h' news → Q .next { s with heap := h', toks := tk' }) :
 wpAny (model rw_ar0036_02.row.prog w) ((Mine.Fa dp un (some []) l).deeper (envOf nm Mine.initScope L fa cd)) (exec (Mine.initAt 10) (envOf nm Mine.initScope L fa cd)) Q (Mine.Out w ((Mine.Fa dp un (some []) l).deeper (envOf nm Mine.initScope L fa cd)) (envOf nm Mine.initScope L fa cd) R) s := by
 obtain ⟨F, X, N, T, Fs, sub, hk, hdp, hun⟩ := H
 (conv => arg 3; arg 1; whnf)
 walk_at "mine lit"
 w_on
 w_strict (
  revert X
  k_fill
  intro X
  
  k_steps)
 all_goals (try (have he9 : (!vs.isEmpty) = true := by cases vs with
                                                     | nil => exact absurd rfl hv
                                                     | cons _ _ => rfl))
 all_goals (try simp only [he9] at *)
 all_goals first | (exact hret _ _ (by assumption) (cb_drop (by assumption) (by walk_at "mine sub2"))) | (exfalso; simp_all; done)
theorem Mine.init_s11Dn
  (H : Mine.Here w h₀ L s.heap m news frs l p loose mean mg mb Mine.initScope dp un 6)
 (v1 : m "palette" = some .none) (v2 : m "greyscale" = some (.ref 236)) (hret : ∀ h' tk', Fr h₀ L h' m → News h₀ L h' news → Q .next { s with heap := h', toks := tk' }) :
 wpAny (model rw_ar0036_02.row.prog w) ((Mine.Fa dp un (some []) l).deeper (envOf nm Mine.initScope L fa cd)) (exec (Mine.initAt 11) (envOf nm Mine.initScope L fa cd)) Q (Mine.Out w ((Mine.Fa dp un (some []) l).deeper (envOf nm Mine.initScope L fa cd)) (envOf nm Mine.initScope L fa cd) R) s := by
 obtain ⟨F, X, N, T, Fs, sub, hk, hdp, hun⟩ := H
 (conv => arg 3; arg 1; whnf)
 walk_at "mine lit"
 w_on
 w_strict (
  revert X
  k_fill
  intro X
  
  k_steps)
 all_goals (try (have he9 : (!vs.isEmpty) = true := by cases vs with
                                                     | nil => exact absurd rfl hv
                                                     | cons _ _ => rfl))
 all_goals (try simp only [he9] at *)
 all_goals first | (exact hret _ _ (by assumption) (cb_drop (by assumption) (by walk_at "mine sub2"))) | (exfalso; simp_all; done)
theorem Mine.init_s11Dr
 {lp : Addr} {vs : List Value} {n : Nat} (H : Mine.Here w h₀ L s.heap m news frs l p loose mean mg mb Mine.initScope dp un 6)
 (hl : (lp, listOf vs.toArray n) ∈ news) (hv : vs ≠ []) (hlv : vs.length ≤ 300) (v1 : m "palette" = some (.ref lp)) (v2 : m "greyscale" = some (.ref 236)) (hret : ∀ h' tk', Fr h₀ L h' (fun y => if y = "greyscale" then some (Value.bool false) else m y) → News h₀ L h' news → Q .next { s with heap := h', toks := tk' }) :
 wpAny (model rw_ar0036_02.row.prog w) ((Mine.Fa dp un (some []) l).deeper (envOf nm Mine.initScope L fa cd)) (exec (Mine.initAt 11) (envOf nm Mine.initScope L fa cd)) Q (Mine.Out w ((Mine.Fa dp un (some []) l).deeper (envOf nm Mine.initScope L fa cd)) (envOf nm Mine.initScope L fa cd) R) s := by
 obtain ⟨F, X, N, T, Fs, sub, hk, hdp, hun⟩ := H
 (conv => arg 3; arg 1; whnf)
 walk_at "mine lit"
 w_on
 w_strict (
  revert X
  k_fill
  intro X
  
  k_steps)
 all_goals (try (have he9 : (!vs.isEmpty) = true := by cases vs with
                                                     | nil => exact absurd rfl hv
                                                     | cons _ _ => rfl))
 all_goals (try simp only [he9] at *)
 all_goals first | (exact hret _ _ (by assumption) (cb_drop (by assumption) (by walk_at "mine sub2"))) | (exfalso; simp_all; done)
theorem Mine.init_s11b
 {g : Bool} (H : Mine.Here w h₀ L s.heap m news frs l p loose mean mg mb Mine.initScope dp un 6)
 (v2 : m "greyscale" = some (.bool g)) (hret : ∀ h' tk', Fr h₀ L h' m → News h₀ L h' news → Q .next { s with heap := h', toks := tk' }) :
 wpAny (model rw_ar0036_02.row.prog w) ((Mine.Fa dp un (some []) l).deeper (envOf nm Mine.initScope L fa cd)) (exec (Mine.initAt 11) (envOf nm Mine.initScope L fa cd)) Q (Mine.Out w ((Mine.Fa dp un (some []) l).deeper (envOf nm Mine.initScope L fa cd)) (envOf nm Mine.initScope L fa cd) R) s := by
 obtain ⟨F, X, N, T, Fs, sub, hk, hdp, hun⟩ := H
 (conv => arg 3; arg 1; whnf)
 walk_at "mine lit"
 w_on
 w_strict (
  revert X
  k_fill
  intro X
  
  k_steps)
 all_goals (try (have he9 : (!vs.isEmpty) = true := by cases vs with
                                                     | nil => exact absurd rfl hv
                                                     | cons _ _ => rfl))
 all_goals (try simp only [he9] at *)
 all_goals first | (exact hret _ _ (by assumption) (cb_drop (by assumption) (by walk_at "mine sub2"))) | (exfalso; simp_all; done)
theorem Mine.init_s12D
  (H : Mine.Here w h₀ L s.heap m news frs l p loose mean mg mb Mine.initScope dp un 6)
 (v2 : m "greyscale" = some (.ref 236)) (hret : ∀ h' tk', Fr h₀ L h' (fun y => if y = "greyscale" then some (Value.bool true) else m y) → News h₀ L h' news → Q .next { s with heap := h', toks := tk' }) :
 wpAny (model rw_ar0036_02.row.prog w) ((Mine.Fa dp un (some []) l).deeper (envOf nm Mine.initScope L fa cd)) (exec (Mine.initAt 12) (envOf nm Mine.initScope L fa cd)) Q (Mine.Out w ((Mine.Fa dp un (some []) l).deeper (envOf nm Mine.initScope L fa cd)) (envOf nm Mine.initScope L fa cd) R) s := by
 obtain ⟨F, X, N, T, Fs, sub, hk, hdp, hun⟩ := H
 (conv => arg 3; arg 1; whnf)
 walk_at "mine lit"
 w_on
 w_strict (
  revert X
  k_fill
  intro X
  
  k_steps)
 all_goals (try (have he9 : (!vs.isEmpty) = true := by cases vs with
                                                     | nil => exact absurd rfl hv
                                                     | cons _ _ => rfl))
 all_goals (try simp only [he9] at *)
 all_goals first | (exact hret _ _ (by assumption) (cb_drop (by assumption) (by walk_at "mine sub2"))) | (exfalso; simp_all; done)
theorem Mine.init_s12b
 {g : Bool} (H : Mine.Here w h₀ L s.heap m news frs l p loose mean mg mb Mine.initScope dp un 6)
 (v2 : m "greyscale" = some (.bool g)) (hret : ∀ h' tk', Fr h₀ L h' (fun y => if y = "greyscale" then some (Value.bool g) else m y) → News h₀ L h' news → Q .next { s with heap := h', toks := tk' }) :
 wpAny (model rw_ar0036_02.row.prog w) ((Mine.Fa dp un (some []) l).deeper (envOf nm Mine.initScope L fa cd)) (exec (Mine.initAt 12) (envOf nm Mine.initScope L fa cd)) Q (Mine.Out w ((Mine.Fa dp un (some []) l).deeper (envOf nm Mine.initScope L fa cd)) (envOf nm Mine.initScope L fa cd) R) s := by
 obtain ⟨F, X, N, T, Fs, sub, hk, hdp, hun⟩ := H
 (conv => arg 3; arg 1; whnf)
 walk_at "mine lit"
 w_on
 w_strict (
  revert X
  k_fill
  intro X
  
  k_steps)
 all_goals (try (have he9 : (!vs.isEmpty) = true := by cases vs with
                                                     | nil => exact absurd rfl hv
                                                     | cons _ _ => rfl))
 all_goals (try simp only [he9] at *)
 all_goals first | (exact hret _ _ (by assumption) (cb_drop (by assumption) (by walk_at "mine sub2"))) | (exfalso; simp_all; done)
end
section
variable {w : World} {p : Program} {loose : List Str} {mean : ExcName → Option Value} {mg mb : Str → Option Value}
variable {dp un : Nat} {nm : Str} {fa : Addr} {cd : Value} {l : List Env} {h₀ : Heap} {L : Addr} {m : Str → Option Value} {news frs : Mine.Led} {s : Shared} {Q : Flow → Shared → Prop} {R : Result → Shared → Prop}
theorem Mine.init_s13t
  (H : Mine.Here w h₀ L s.heap m news frs l p loose mean mg mb Mine.initScope dp un 6)
 (v1 : m "colormap" = some (.bool true)) (hret : ∀ u1 u2 h' tk', Fr h₀ L h' (fun y => if y = "planes" then some (Value.int 1 u1) else if y = "color_planes" then some (Value.int 1 u2) else m y) → News h₀ L h' news → Q .next { s with heap := h', toks := tk' }) :
 wpAny (model rw_ar0036_02.row.prog w) ((Mine.Fa dp un (some []) l).deeper (envOf nm Mine.initScope L fa cd)) (exec (Mine.initAt 13) (envOf nm Mine.initScope L fa cd)) Q (Mine.Out w ((Mine.Fa dp un (some []) l).deeper (envOf nm Mine.initScope L fa cd)) (envOf nm Mine.initScope L fa cd) R) s := by
 obtain ⟨F, X, N, T, Fs, sub, hk, hdp, hun⟩ := H
 (conv => arg 3; arg 1; whnf)
 walk_at "mine lit"
 w_on
 w_strict (
  revert X
  k_fill
  intro X
  
  k_steps)
 all_goals first | (exact hret _ _ _ _ (by assumption) (cb_drop (by assumption) (by walk_at "mine sub2"))) | (exact hret _ _ _ _ _ _ (by first | rfl | simp) (by first | rfl | simp) (by assumption) (cb_drop (by assumption) (by walk_at "mine sub2")))
theorem Mine.init_s13f0
 {al : Bool} (H : Mine.Here w h₀ L s.heap m news frs l p loose mean mg mb Mine.initScope dp un 6)
 (v1 : m "colormap" = some (.bool false)) (v2 : m "greyscale" = some (.bool false)) (v3 : m "alpha" = some (.bool al)) (hret : ∀ c q u1 u2 h' tk', c = 3 → q = 3 + (if al then 1 else 0) → Fr h₀ L h' (fun y => if y = "planes" then some (Value.int q u1) else if y = "color_planes" then some (Value.int c u2) else m y) → News h₀ L h' news → Q .next { s with heap := h', toks := tk' }) :
 wpAny (model rw_ar0036_02.row.prog w) ((Mine.Fa dp un (some []) l).deeper (envOf nm Mine.initScope L fa cd)) (exec (Mine.initAt 13) (envOf nm Mine.initScope L fa cd)) Q (Mine.Out w ((Mine.Fa dp un (some []) l).deeper (envOf nm Mine.initScope L fa cd)) (envOf nm Mine.initScope L fa cd) R) s := by
 obtain ⟨F, X, N, T, Fs, sub, hk, hdp, hun⟩ := H
 (conv => arg 3; arg 1; whnf)
 walk_at "mine lit"
 w_on
 w_strict (
  revert X
  k_fill
  intro X
  
  k_steps)
 all_goals first | (exact hret _ _ _ _ (by assumption) (cb_drop (by assumption) (by walk_at "mine sub2"))) | (exact hret _ _ _ _ _ _ (by first | rfl | simp) (by first | rfl | simp) (by assumption) (cb_drop (by assumption) (by walk_at "mine sub2")))
theorem Mine.init_s13f1
 {al : Bool} (H : Mine.Here w h₀ L s.heap m news frs l p loose mean mg mb Mine.initScope dp un 6)
 (v1 : m "colormap" = some (.bool false)) (v2 : m "greyscale" = some (.bool true)) (v3 : m "alpha" = some (.bool al)) (hret : ∀ c q u1 u2 h' tk', c = 1 → q = 1 + (if al then 1 else 0) → Fr h₀ L h' (fun y => if y = "planes" then some (Value.int q u1) else if y = "color_planes" then some (Value.int c u2) else m y) → News h₀ L h' news → Q .next { s with heap := h', toks := tk' }) :
 wpAny (model rw_ar0036_02.row.prog w) ((Mine.Fa dp un (some []) l).deeper (envOf nm Mine.initScope L fa cd)) (exec (Mine.initAt 13) (envOf nm Mine.initScope L fa cd)) Q (Mine.Out w ((Mine.Fa dp un (some []) l).deeper (envOf nm Mine.initScope L fa cd)) (envOf nm Mine.initScope L fa cd) R) s := by
 obtain ⟨F, X, N, T, Fs, sub, hk, hdp, hun⟩ := H
 (conv => arg 3; arg 1; whnf)
 walk_at "mine lit"
 w_on
 w_strict (
  revert X
  k_fill
  intro X
  
  k_steps)
 all_goals first | (exact hret _ _ _ _ (by assumption) (cb_drop (by assumption) (by walk_at "mine sub2"))) | (exact hret _ _ _ _ _ _ (by first | rfl | simp) (by first | rfl | simp) (by assumption) (cb_drop (by assumption) (by walk_at "mine sub2")))
theorem Mine.init_s16n
 {b : Int} {t1 : Tok} {g al : Bool} (H : Mine.Here w h₀ L s.heap m news frs l p loose mean mg mb Mine.initScope dp un 6)
 (v0 : m "palette" = some .none) (v1 : m "bitdepth" = some (.int b t1)) (v2 : m "greyscale" = some (.bool g)) (v3 : m "alpha" = some (.bool al)) (hc : b < 8 → g = true ∧ al = false) (hret : ∀ h' tk', Fr h₀ L h' m → News h₀ L h' news → Q .next { s with heap := h', toks := tk' }) :
 wpAny (model rw_ar0036_02.row.prog w) ((Mine.Fa dp un (some []) l).deeper (envOf nm Mine.initScope L fa cd)) (exec (Mine.initAt 16) (envOf nm Mine.initScope L fa cd)) Q (Mine.Out w ((Mine.Fa dp un (some []) l).deeper (envOf nm Mine.initScope L fa cd)) (envOf nm Mine.initScope L fa cd) R) s := by
 obtain ⟨F, X, N, T, Fs, sub, hk, hdp, hun⟩ := H
 (conv => arg 3; arg 1; whnf)
 walk_at "mine lit"
 w_on
 w_strict (
  revert X
  k_fill
  intro X
  
  k_steps)
 all_goals first | (exact hret _ _ (by assumption) (cb_drop (by assumption) (by walk_at "mine sub2"))) | (exfalso; simp_all; done)
theorem Mine.init_s16r
 {b : Int} {t1 : Tok} {g al : Bool} {lp : Addr} {vs : List Value} {n : Nat} (H : Mine.Here w h₀ L s.heap m news frs l p loose mean mg mb Mine.initScope dp un 6)
 (hl : (lp, listOf vs.toArray n) ∈ news) (hv : vs ≠ []) (hlv : vs.length ≤ 300) (v0 : m "palette" = some (.ref lp)) (v1 : m "bitdepth" = some (.int b t1)) (v2 : m "greyscale" = some (.bool g)) (v3 : m "alpha" = some (.bool al)) (hc : b < 8 → al = false) (hret : ∀ h' tk', Fr h₀ L h' m → News h₀ L h' news → Q .next { s with heap := h', toks := tk' }) :
 wpAny (model rw_ar0036_02.row.prog w) ((Mine.Fa dp un (some []) l).deeper (envOf nm Mine.initScope L fa cd)) (exec (Mine.initAt 16) (envOf nm Mine.initScope L fa cd)) Q (Mine.Out w ((Mine.Fa dp un (some []) l).deeper (envOf nm Mine.initScope L fa cd)) (envOf nm Mine.initScope L fa cd) R) s := by
 obtain ⟨F, X, N, T, Fs, sub, hk, hdp, hun⟩ := H
 (conv => arg 3; arg 1; whnf)
 walk_at "mine lit"
 w_on
 w_strict (
  revert X
  k_fill
  intro X
  
  k_steps)
 all_goals first | (exact hret _ _ (by assumption) (cb_drop (by assumption) (by walk_at "mine sub2"))) | (exfalso; simp_all; done)
theorem Mine.init_s17n
 {b : Int} {t1 : Tok} (H : Mine.Here w h₀ L s.heap m news frs l p loose mean mg mb Mine.initScope dp un 6)
 (v0 : m "palette" = some .none) (v1 : m "bitdepth" = some (.int b t1)) (hret : ∀ h' tk', Fr h₀ L h' m → News h₀ L h' news → Q .next { s with heap := h', toks := tk' }) :
 wpAny (model rw_ar0036_02.row.prog w) ((Mine.Fa dp un (some []) l).deeper (envOf nm Mine.initScope L fa cd)) (exec (Mine.initAt 17) (envOf nm Mine.initScope L fa cd)) Q (Mine.Out w ((Mine.Fa dp un (some []) l).deeper (envOf nm Mine.initScope L fa cd)) (envOf nm Mine.initScope L fa cd) R) s := by
 obtain ⟨F, X, N, T, Fs, sub, hk, hdp, hun⟩ := H
 (conv => arg 3; arg 1; whnf)
 walk_at "mine lit"
 w_on
 w_strict (
  revert X
  k_fill
  intro X
  
  k_steps)
 all_goals first | (exact hret _ _ (by assumption) (cb_drop (by assumption) (by walk_at "mine sub2"))) | (exfalso; simp_all; done)
theorem Mine.init_s17r
 {b : Int} {t1 : Tok} (H : Mine.Here w h₀ L s.heap m news frs l p loose mean mg mb Mine.initScope dp un 6)
 (v1 : m "bitdepth" = some (.int b t1)) (hc : b ≤ 8) (hret : ∀ h' tk', Fr h₀ L h' m → News h₀ L h' news → Q .next { s with heap := h', toks := tk' }) :
 wpAny (model rw_ar0036_02.row.prog w) ((Mine.Fa dp un (some []) l).deeper (envOf nm Mine.initScope L fa cd)) (exec (Mine.initAt 17) (envOf nm Mine.initScope L fa cd)) Q (Mine.Out w ((Mine.Fa dp un (some []) l).deeper (envOf nm Mine.initScope L fa cd)) (envOf nm Mine.initScope L fa cd) R) s := by
 obtain ⟨F, X, N, T, Fs, sub, hk, hdp, hun⟩ := H
 (conv => arg 3; arg 1; whnf)
 walk_at "mine lit"
 w_on
 w_strict (
  revert X
  k_fill
  intro X
  
  k_steps)
 all_goals first | (exact hret _ _ (by assumption) (cb_drop (by assumption) (by walk_at "mine sub2"))) | (exfalso; simp_all; done)
end
section
variable {w : World} {p : Program} {loose : List Str} {mean : ExcName → Option Value} {mg mb : Str → Option Value}
variable {dp un : Nat} {nm : Str} {fa : Addr} {cd : Value} {l : List Env} {h₀ : Heap} {L : Addr} {m : Str → Option Value} {news frs : Mine.Led} {s : Shared} {Q : Flow → Shared → Prop} {R : Result → Shared → Prop}
theorem Mine.init_s14a
 {v : Value} {q : Int} {u1 : Tok} {c : Addr} (H : Mine.Here w h₀ L s.heap m news frs l p loose mean mg mb Mine.initScope dp un 6)
 (hm : (c, ({ cls := .type "tuple", data := .seq [v].toArray } : Obj)) ∈ news) (v1 : m "bitdepth" = some (.ref c)) (v2 : m "planes" = some (.int q u1)) (h1 : 1 ≤ q) (h4 : q ≤ 4) (hret : ∀ c' h' tk' news', Fr h₀ L h' (fun y => if y = "bitdepth" then some (.ref c') else m y) → News h₀ L h' news' → (∀ p ∈ news, p ∈ news') → (c', ({ cls := .type "tuple", data := .seq (List.replicate q.toNat v).toArray } : Obj)) ∈ news' → Q .next { s with heap := h', toks := tk' }) :
 wpAny (model rw_ar0036_02.row.prog w) ((Mine.Fa dp un (some []) l).deeper (envOf nm Mine.initScope L fa cd)) (exec (Mine.initAt 14) (envOf nm Mine.initScope L fa cd)) Q (Mine.Out w ((Mine.Fa dp un (some []) l).deeper (envOf nm Mine.initScope L fa cd)) (envOf nm Mine.initScope L fa cd) R) s := by
 obtain ⟨F, X, N, T, Fs, sub, hk, hdp, hun⟩ := H
 (conv => arg 3; arg 1; whnf)
 walk_at "mine lit"
 w_on
 w_strict (
  revert X
  k_fill
  intro X
  
  k_steps)
 all_goals first | (exfalso; simp at *; done) | exact hret _ _ _ _ (by assumption) (by assumption) (by assumption) (by assumption)
theorem Mine.init_s14b
 {vs : List Value} {c : Addr} (H : Mine.Here w h₀ L s.heap m news frs l p loose mean mg mb Mine.initScope dp un 6)
 (hm : (c, ({ cls := .type "tuple", data := .seq vs.toArray } : Obj)) ∈ news) (hl : vs.length ≤ 6) (hn : vs.length ≠ 1) (v1 : m "bitdepth" = some (.ref c)) (hret : ∀ h' tk', Fr h₀ L h' m → News h₀ L h' news → Q .next { s with heap := h', toks := tk' }) :
 wpAny (model rw_ar0036_02.row.prog w) ((Mine.Fa dp un (some []) l).deeper (envOf nm Mine.initScope L fa cd)) (exec (Mine.initAt 14) (envOf nm Mine.initScope L fa cd)) Q (Mine.Out w ((Mine.Fa dp un (some []) l).deeper (envOf nm Mine.initScope L fa cd)) (envOf nm Mine.initScope L fa cd) R) s := by
 obtain ⟨F, X, N, T, Fs, sub, hk, hdp, hun⟩ := H
 (conv => arg 3; arg 1; whnf)
 walk_at "mine lit"
 w_on
 w_strict (
  revert X
  k_fill
  intro X
  
  k_steps)
 all_goals first | (exact hret _ _ (by assumption) (by assumption)) | (exfalso; omega)
end
section
variable {w : World} {p : Program} {loose : List Str} {mean : ExcName → Option Value} {mg mb : Str → Option Value}
variable {dp un : Nat} {nm : Str} {fa : Addr} {cd : Value} {l : List Env} {h₀ : Heap} {L : Addr} {m : Str → Option Value} {news frs : Mine.Led} {s : Shared} {Q : Flow → Shared → Prop} {R : Result → Shared → Prop}
theorem Mine.init_s18n
 {g : Bool} (H : Mine.Here w h₀ L s.heap m news frs l p loose mean mg mb Mine.initScope dp un 8)
 (v1 : m "transparent" = some .none) (v2 : m "greyscale" = some (.bool g)) (hret : ∀ h' tk' news', Fr h₀ L h' (fun y => if y = "transparent" then some .none else m y) → News h₀ L h' news' → (∀ p ∈ news, p ∈ news') → Q .next { s with heap := h', toks := tk' }) :
 wpAny (model rw_ar0036_02.row.prog w) ((Mine.Fa dp un (some []) l).deeper (envOf nm Mine.initScope L fa cd)) (exec (Mine.initAt 18) (envOf nm Mine.initScope L fa cd)) Q (Mine.Out w ((Mine.Fa dp un (some []) l).deeper (envOf nm Mine.initScope L fa cd)) (envOf nm Mine.initScope L fa cd) R) s := by
 obtain ⟨F, X, N, T, Fs, sub, hk, hdp, hun⟩ := H
 (conv => arg 3; arg 1; whnf)
 walk_at "mine lit"
 w_on
 w_strict (
  revert X
  k_fill
  intro X
  
  k_steps)
 all_goals exact hret _ _ _ (by assumption) (by assumption) (by walk_at "mine sub2")
theorem Mine.init_s19n
 {g : Bool} (H : Mine.Here w h₀ L s.heap m news frs l p loose mean mg mb Mine.initScope dp un 8)
 (v1 : m "background" = some .none) (v2 : m "greyscale" = some (.bool g)) (hret : ∀ h' tk' news', Fr h₀ L h' (fun y => if y = "background" then some .none else m y) → News h₀ L h' news' → (∀ p ∈ news, p ∈ news') → Q .next { s with heap := h', toks := tk' }) :
 wpAny (model rw_ar0036_02.row.prog w) ((Mine.Fa dp un (some []) l).deeper (envOf nm Mine.initScope L fa cd)) (exec (Mine.initAt 19) (envOf nm Mine.initScope L fa cd)) Q (Mine.Out w ((Mine.Fa dp un (some []) l).deeper (envOf nm Mine.initScope L fa cd)) (envOf nm Mine.initScope L fa cd) R) s := by
 obtain ⟨F, X, N, T, Fs, sub, hk, hdp, hun⟩ := H
 (conv => arg 3; arg 1; whnf)
 walk_at "mine lit"
 w_on
 w_strict (
  revert X
  k_fill
  intro X
  
  k_steps)
 all_goals exact hret _ _ _ (by assumption) (by assumption) (by walk_at "mine sub2")
end
section
variable {w : World} {p : Program} {loose : List Str} {mean : ExcName → Option Value} {mg mb : Str → Option Value}
namespace Mine
theorem up_back {frs frs' : Led} {h : Heap} (SU : SameUp frs frs') (U : Up frs' h) : Up frs h := fun p hp => by
  obtain ⟨sl, hm⟩ := SameUp.back SU p hp
  obtain ⟨sl2, e⟩ := U _ hm
  exact ⟨sl2, e⟩
inductive StEx (w : World) (p : Program) (loose : List Str) (mean : ExcName → Option Value) (mg mb : Str → Option Value) (dp un : Nat) (l : List Env) (h₀ : Heap) (L : Addr) (frs obj : Led) (m : Str → Option Value) (h : Heap) : Prop
  | mk (nw frs' : Led) : SameUp frs frs' → Here w h₀ L h m nw frs' l p loose mean mg mb initScope dp un 24 → (∀ p ∈ obj, p ∈ nw) → StEx w p loose mean mg mb dp un l h₀ L frs obj m h
structure St (w : World) (p : Program) (loose : List Str) (mean : ExcName → Option Value) (mg mb : Str → Option Value) (dp un : Nat) (l : List Env) (h₀ : Heap) (L : Addr) (frs obj : Led) (m : Str → Option Value) (h : Heap) : Prop where
  ex : StEx w p loose mean mg mb dp un l h₀ L frs obj m h
  ap : ∀ p ∈ obj, ∀ q ∈ frs, q.1 ≠ p.1
def Fails (h₀ : Heap) (l : List Env) (frs : Led) (R : Result → Shared → Prop) (s : Shared) : Prop := ∀ e a0 h' tk', Heap.FlyingW h₀ l e (.ref 224) a0 h' → Up frs h' → R (.error (.ref e)) { s with heap := h', toks := tk' }
inductive SizeIn (nw : Led) (m : Str → Option Value) (x y : Int) : Prop → Prop
  | a {t1 t2 : Tok} : m "size" = some .none → m "width" = some (.int x t1) → m "height" = some (.int y t2) → SizeIn nw m x y True
  | b {sz : Addr} {t1 t2 : Tok} : (sz, ({ cls := .type "tuple", data := .seq [Value.int x t1, Value.int y t2].toArray } : Obj)) ∈ nw → m "size" = some (.ref sz) → m "width" = some .none → m "height" = some .none → SizeIn nw m x y True
  | c {sz : Addr} {x' y' : Int} {t1 t2 t3 t4 : Tok} : (sz, ({ cls := .type "tuple", data := .seq [Value.int x' t1, Value.int y' t2].toArray } : Obj)) ∈ nw → m "size" = some (.ref sz) → m "width" = some (.int x t3) → m "height" = some (.int y t4) → -10000000000 < x' → x' < 10000000000 → -10000000000 < y' → y' < 10000000000 → SizeIn nw m x y (x = x' ∧ y = y')
  | d {sz : Addr} {z : Int} {t1 t2 t3 : Tok} : (sz, ({ cls := .type "tuple", data := .seq [Value.int x t1, Value.int y t2, Value.int z t3].toArray } : Obj)) ∈ nw → m "size" = some (.ref sz) → m "width" = some .none → m "height" = some .none → -10000000000 < z → z < 10000000000 → SizeIn nw m x y False
theorem SizeIn.mono {nw nw' : Led} {m : Str → Option Value} {x y : Int} {P : Prop} (h : ∀ p ∈ nw, p ∈ nw') : SizeIn nw m x y P → SizeIn nw' m x y P
  | .a k1 k2 k3 => .a k1 k2 k3
  | .b k1 k2 k3 k4 => .b (h _ k1) k2 k3 k4
  | .c k1 k2 k3 k4 k5 k6 k7 k8 => .c (h _ k1) k2 k3 k4 k5 k6 k7 k8
  | .d k1 k2 k3 k4 k5 k6 => .d (h _ k1) k2 k3 k4 k5 k6
theorem stageA
  {dp un : Nat} {nm : Str} {fa : Addr} {cd : Value} {l : List Env} {h₀ : Heap} {L : Addr} {m : Str → Option Value} {frs obj : Mine.Led} {s : Shared} {Q : Flow → Shared → Prop} {R : Result → Shared → Prop} {rest : List Stmt} {x y : Int} {ok : Prop} (S : St w p loose mean mg mb dp un l h₀ L frs obj m s.heap) (hz : SizeIn obj m x y ok) (bx0 : -10000000000 < x) (bx1 : x < 10000000000) (by0 : -10000000000 < y) (by1 : y < 10000000000)
  (hret : ok → 0 < x → 0 < y → x ≤ 2147483647 → y ≤ 2147483647 → ∀ m' h' tk' u1 u2, m' "width" = some (.int x u1) → m' "height" = some (.int y u2) → (∀ n : PySem.Str, n ≠ "width" → n ≠ "height" → n ≠ "size" → m' n = m n) → St w p loose mean mg mb dp un l h₀ L frs obj m' h' → wpAny (model rw_ar0036_02.row.prog w) ((Mine.Fa dp un (some []) l).deeper (envOf nm Mine.initScope L fa cd)) (execs (rest) (envOf nm Mine.initScope L fa cd)) Q (Mine.Out w ((Mine.Fa dp un (some []) l).deeper (envOf nm Mine.initScope L fa cd)) (envOf nm Mine.initScope L fa cd) R) { s with heap := h', toks := tk' })
  (hraise : ¬ (ok ∧ 0 < x ∧ 0 < y ∧ x ≤ 2147483647 ∧ y ≤ 2147483647) → Fails h₀ l frs R s) : wpAny (model rw_ar0036_02.row.prog w) ((Mine.Fa dp un (some []) l).deeper (envOf nm Mine.initScope L fa cd)) (execs (initAt 0 :: initAt 1 :: initAt 2 :: initAt 3 :: initAt 4 :: rest) (envOf nm Mine.initScope L fa cd)) Q (Mine.Out w ((Mine.Fa dp un (some []) l).deeper (envOf nm Mine.initScope L fa cd)) (envOf nm Mine.initScope L fa cd) R) s := by
  obtain ⟨nw, frs', SU, H, ho⟩ := S.ex
  have hz' := hz.mono ho
  have more : ok → ∀ u1 u2 h1 tk1, Fr h₀ L h1 (fun y' => if y' = "height" then some (.int y u2) else if y' = "width" then some (.int x u1) else m y') → News h₀ L h1 nw → wpAny (model rw_ar0036_02.row.prog w) ((Mine.Fa dp un (some []) l).deeper (envOf nm Mine.initScope L fa cd)) (execs (initAt 1 :: initAt 2 :: initAt 3 :: initAt 4 :: rest) (envOf nm Mine.initScope L fa cd)) Q (Mine.Out w ((Mine.Fa dp un (some []) l).deeper (envOf nm Mine.initScope L fa cd)) (envOf nm Mine.initScope L fa cd) R) { s with heap := h1, toks := tk1 } := by
    intro hok u1 u2 h1 tk1 F1 N1
    have H1 := H.now F1 N1
    have sz : (fun y' : PySem.Str => if y' = "height" then some (Value.int y u2) else if y' = "width" then some (.int x u1) else m y') "size" = m "size" := (if_neg (by decide : ¬ (("size" : PySem.Str) = "height"))).trans (if_neg (by decide : ¬ (("size" : PySem.Str) = "width")))
    have hsz : ∃ v, m "size" = some v := by cases hz' <;> exact ⟨_, by assumption⟩
    obtain ⟨v, hv⟩ := hsz
    refine wpAny_execs_cons (init_d1 (s := { s with heap := h1, toks := tk1 }) (H1.weak (by decide)) (sz.trans hv) fun u h2 tk2 F2 N2 => ?_)
    have H2 := H1.now F2 N2
    have w2 : (fun z : PySem.Str => if z = "size" then u else (fun y' : PySem.Str => if y' = "height" then some (Value.int y u2) else if y' = "width" then some (.int x u1) else m y') z) "width" = some (.int x u1) := (if_neg (by decide : ¬ (("width" : PySem.Str) = "size"))).trans ((if_neg (by decide : ¬ (("width" : PySem.Str) = "height"))).trans (if_pos rfl))
    have w3 : (fun z : PySem.Str => if z = "size" then u else (fun y' : PySem.Str => if y' = "height" then some (Value.int y u2) else if y' = "width" then some (.int x u1) else m y') z) "height" = some (.int y u2) := (if_neg (by decide : ¬ (("height" : PySem.Str) = "size"))).trans (if_pos rfl)
    refine wpAny_execs_cons (init_s2 (s := { s with heap := h2, toks := tk2 }) (H2.weak (by decide)) w2 w3 (fun g2 h3 tk3 F3 N3 => ?_) fun e a0 h' tk' bd fl up => hraise (fun hh => bd ⟨by omega, by omega⟩) e a0 h' tk' fl (up_back SU up))
    have H3 := H2.now F3 N3
    refine wpAny_execs_cons (init_s3 (s := { s with heap := h3, toks := tk3 }) (H3.weak (by decide)) w2 w3 (fun g3 h4 tk4 F4 N4 => ?_) fun e a0 h' tk' bd fl up => hraise (fun hh => bd ⟨by omega, by omega⟩) e a0 h' tk' fl (up_back SU up))
    have H4 := H3.now F4 N4
    refine wpAny_execs_cons (init_s4 (s := { s with heap := h4, toks := tk4 }) (H4.weak (by decide)) rfl w2 w3 (fun g4 h5 tk5 F5 N5 => ?_) fun e a0 h' tk' bd fl up => hraise (fun hh => bd ⟨by omega, by omega⟩) e a0 h' tk' fl (up_back SU up))
    exact hret hok g3.1 g3.2 g4.1 g4.2 _ h5 tk5 u1 u2 w2 w3 (fun n h1 h2 h3 => (if_neg h3).trans ((if_neg h2).trans (if_neg h1))) ⟨⟨nw, frs', SU, H4.now F5 N5, ho⟩, S.ap⟩
  refine wpAny_execs_cons ?_
  cases hz' with
  | a a1 a2 a3 => exact init_s1a (H.weak (by decide)) a1 a2 a3 fun u1 u2 h1 tk1 F1 N1 => more trivial u1 u2 h1 tk1 F1 N1
  | b a1 a2 a3 a4 => exact init_s1b (H.weak (by decide)) a1 a2 a3 a4 fun u1 u2 h1 tk1 F1 N1 => more trivial u1 u2 h1 tk1 F1 N1
  | c a1 a2 a3 a4 b1 b2 b3 b4 =>
    refine init_s1c (H.weak (by decide)) a1 a2 a3 a4 b1 b2 b3 b4 bx0 bx1 by0 by1 (fun e1 e2 u1 u2 h1 tk1 F1 N1 => ?_) fun e a0 h' tk' bd fl up => hraise (fun hh => ?_) e a0 h' tk' fl (up_back SU up)
    · subst e1 e2
      exact more ⟨rfl, rfl⟩ u1 u2 h1 tk1 F1 N1
    · rcases bd with b | b
      · exact b hh.1.1
      · exact b hh.1.2
  | d a1 a2 a3 a4 b1 b2 => exact init_s1d (H.weak (by decide)) a1 a2 a3 a4 bx0 bx1 by0 by1 b1 b2 fun e a0 h' tk' _ fl up => hraise (fun hh => hh.1) e a0 h' tk' fl (up_back SU up)
theorem apart_seq {w : World} {h₀ : Heap} {L : Addr} {h : Heap} {m : Str → Option Value} {nw frs frs' : Led} {l : List Env} {p : Program} {loose : List Str} {mean : ExcName → Option Value} {mg mb : Str → Option Value} {cs : Scope} {dp un bud : Nat} (SU : SameUp frs frs') (H : Here w h₀ L h m nw frs' l p loose mean mg mb cs dp un bud) {a : Addr} {o : Obj} (ha : (a, o) ∈ nw) (hs : ∃ vs n, o.data = .seq vs n) : ∀ q ∈ frs, q.1 ≠ a := by
  rintro q hq rfl
  obtain ⟨sl, hm⟩ := SameUp.back SU q hq
  obtain ⟨es, ep, hd⟩ := H.Fs.dict _ hm
  have e1 := (H.N _ (H.sub _ hm)).1
  have e2 := (H.N _ ha).1
  dsimp only at e1 e2
  rw [e1] at e2
  cases e2
  obtain ⟨vs, n, hs⟩ := hs
  rw [hs] at hd
  cases hd
inductive Col
  | no
  | num (n : Int)
  | tup (qs : List Int)
inductive ColIs (nw : Led) : Value → Col → Prop
  | no : ColIs nw .none .no
  | num (n : Int) (t : Tok) : ColIs nw (.int n t) (.num n)
  | tup {c : Addr} {vs : List Value} {qs : List Int} : (c, ({ cls := .type "tuple", data := .seq vs.toArray } : Obj)) ∈ nw → IntsAre vs qs → ColIs nw (.ref c) (.tup qs)
theorem ColIs.mono {nw nw' : Led} (h : ∀ p ∈ nw, p ∈ nw') {v : Value} {c : Col} : ColIs nw v c → ColIs nw' v c
  | .no => .no
  | .num n t => .num n t
  | .tup k1 k2 => .tup (h _ k1) k2
inductive DepIn (nw : Led) : Value → List Int → Prop
  | one (d : Int) (t : Tok) : DepIn nw (.int d t) [d]
  | tup {c : Addr} {vs : List Value} {qs : List Int} : (c, ({ cls := .type "tuple", data := .seq vs.toArray } : Obj)) ∈ nw → IntsAre vs qs → DepIn nw (.ref c) qs
theorem stageB
  {dp un : Nat} {nm : Str} {fa : Addr} {cd : Value} {l : List Env} {h₀ : Heap} {L : Addr} {m : Str → Option Value} {frs obj : Mine.Led} {s : Shared} {Q : Flow → Shared → Prop} {R : Result → Shared → Prop} {rest : List Stmt} {al : Bool} {tv dv : Value} {tc : Col} {qs : List Int} (S : St w p loose mean mg mb dp un l h₀ L frs obj m s.heap) (va : m "alpha" = some (.bool al)) (vt : m "transparent" = some tv) (vb : m "bitdepth" = some dv) (hc : ColIs obj tv tc) (hd : DepIn obj dv qs) (hne : qs ≠ []) (hlen : qs.length ≤ 6) (hbn : ∀ n ∈ qs, -10000000000 < n ∧ n < 10000000000)
  (hret : (al = true → tc = .no) → (∀ q ∈ qs, 1 ≤ q ∧ q ≤ 16) → ∀ m' h' tk' c vs, IntsAre vs qs → m' "bitdepth" = some (.ref c) → (∀ n : PySem.Str, n ≠ "bitdepth" → n ≠ "valid" → n ≠ "b" → m' n = m n) → St w p loose mean mg mb dp un l h₀ L frs ((c, ({ cls := .type "tuple", data := .seq vs.toArray } : Obj)) :: obj) m' h' → wpAny (model rw_ar0036_02.row.prog w) ((Mine.Fa dp un (some []) l).deeper (envOf nm Mine.initScope L fa cd)) (execs (rest) (envOf nm Mine.initScope L fa cd)) Q (Mine.Out w ((Mine.Fa dp un (some []) l).deeper (envOf nm Mine.initScope L fa cd)) (envOf nm Mine.initScope L fa cd) R) { s with heap := h', toks := tk' })
  (hraise : ¬ ((al = true → tc = .no) ∧ ∀ q ∈ qs, 1 ≤ q ∧ q ≤ 16) → Fails h₀ l frs R s) : wpAny (model rw_ar0036_02.row.prog w) ((Mine.Fa dp un (some []) l).deeper (envOf nm Mine.initScope L fa cd)) (execs (initAt 5 :: initAt 6 :: initAt 7 :: rest) (envOf nm Mine.initScope L fa cd)) Q (Mine.Out w ((Mine.Fa dp un (some []) l).deeper (envOf nm Mine.initScope L fa cd)) (envOf nm Mine.initScope L fa cd) R) s := by
  obtain ⟨nw, frs', SU, H, ho⟩ := S.ex
  have more : (al = true → tc = .no) → ∀ (c : Addr) (vs : List Value) (nw2 frs2 : Led) (m2 : Str → Option Value) (h1 : Heap) (tk1 : Nat), IntsAre vs qs → m2 "bitdepth" = some (.ref c) → (∀ n : PySem.Str, n ≠ "bitdepth" → m2 n = m n) → SameUp frs frs2 → Here w h₀ L h1 m2 nw2 frs2 l p loose mean mg mb initScope dp un 24 → (c, ({ cls := .type "tuple", data := .seq vs.toArray } : Obj)) ∈ nw2 → (∀ p ∈ obj, p ∈ nw2) → wpAny (model rw_ar0036_02.row.prog w) ((Mine.Fa dp un (some []) l).deeper (envOf nm Mine.initScope L fa cd)) (execs (initAt 7 :: rest) (envOf nm Mine.initScope L fa cd)) Q (Mine.Out w ((Mine.Fa dp un (some []) l).deeper (envOf nm Mine.initScope L fa cd)) (envOf nm Mine.initScope L fa cd) R) { s with heap := h1, toks := tk1 } := by
    intro hal c vs nw2 frs2 m2 h1 tk1 hi vb2 hm2 SU2 H2 hcm ho2
    refine wpAny_execs_cons (init_s7 (s := { s with heap := h1, toks := tk1 }) (H2.weak (by decide)) hcm hi hne hlen hbn vb2 (fun g m3 h3 tk3 hm3 F3 N3 => ?_) fun e a0 h' tk' bd fl up => hraise (fun hh => bd hh.2) e a0 h' tk' fl (up_back SU2 up))
    refine hret hal g m3 h3 tk3 c vs hi ((hm3 _ (by decide) (by decide)).trans vb2) (fun n k1 k2 k3 => (hm3 n k2 k3).trans (hm2 n k1)) ⟨⟨nw2, frs2, SU2, H2.now F3 N3, fun p hp => ?_⟩, fun p hp q hq => ?_⟩
    · rcases List.mem_cons.mp hp with rfl | hp
      · exact hcm
      · exact ho2 p hp
    · rcases List.mem_cons.mp hp with rfl | hp
      · exact apart_seq SU2 H2 hcm ⟨_, _, rfl⟩ q hq
      · exact S.ap p hp q hq
  have five : (al = true → tc = .no) → ∀ h1 tk1, Fr h₀ L h1 m → News h₀ L h1 nw → wpAny (model rw_ar0036_02.row.prog w) ((Mine.Fa dp un (some []) l).deeper (envOf nm Mine.initScope L fa cd)) (execs (initAt 6 :: initAt 7 :: rest) (envOf nm Mine.initScope L fa cd)) Q (Mine.Out w ((Mine.Fa dp un (some []) l).deeper (envOf nm Mine.initScope L fa cd)) (envOf nm Mine.initScope L fa cd) R) { s with heap := h1, toks := tk1 } := by
    intro hal h1 tk1 F1 N1
    have H1 := H.now F1 N1
    refine wpAny_execs_cons ?_
    cases hd with
    | tup hm hi =>
      have hl := IntsAre.length hi
      exact init_s6t (s := { s with heap := h1, toks := tk1 }) (H1.weak (by decide)) (ho _ hm) (by omega) vb fun h2 tk2 F2 N2 => more hal _ _ nw frs' m h2 tk2 hi vb (fun _ _ => rfl) SU (H1.now F2 N2) (ho _ hm) ho
    | one d t =>
      have key : ∀ p : Addr × Obj, (p ∈ nw.filter fun p => !(frs'.map (·.1)).contains p.1) ↔ p ∈ nw ∧ ∀ q ∈ frs', q.1 ≠ p.1 := fun p => by
        rw [List.mem_filter]
        refine and_congr_right fun _ => ?_
        simp only [Bool.not_eq_true', List.contains_eq_any_beq, List.any_eq_false, List.mem_map, beq_iff_eq, forall_exists_index, and_imp]
        exact ⟨fun h q hq e => h q.1 q hq rfl e.symm, fun h x q hq e e2 => h q hq (e.trans e2.symm)⟩
      have hs : ∀ p ∈ (nw.filter fun p => !(frs'.map (·.1)).contains p.1) ++ frs', p ∈ nw := fun p hp => (List.mem_append.mp hp).elim (fun h => ((key p).mp h).1) (H.sub p)
      refine init_s6i (s := { s with heap := h1, toks := tk1 }) (new := nw.filter fun p => !(frs'.map (·.1)).contains p.1) ((H1.next F1 (fun p hp => N1 p (hs p hp)) (fun p hp => List.mem_append.mpr (.inr hp))).weak (by decide)) rfl (fun p hp => ?_) vb fun a u frs2 h2 tk2 SU2 Fs2 lt2 F2 N2 => ?_
      · obtain ⟨hp1, hp2⟩ := (key p).mp hp
        simp only [List.mem_cons, List.mem_map, not_or, not_exists, not_and]
        exact ⟨(N1 p hp1).2.1, fun q hq e => hp2 q hq e⟩
      · refine more hal a [.int d u] _ frs2 _ h2 tk2 (.cons d u .nil) (if_pos rfl) (fun n k => if_neg k) (SameUp.trans SU SU2) ⟨F2, H.X, N2, H.T, Fs2, fun p hp => .tail _ (List.mem_append.mpr (.inr hp)), H.k, H.d, H.u⟩ (.head _) fun p hp => .tail _ (List.mem_append.mpr (.inl ((key p).mpr ⟨ho p hp, fun q hq => ?_⟩)))
        obtain ⟨q0, hq0, e⟩ := SameUp.fwd SU q hq
        rw [e]; exact S.ap p hp q0 hq0
  refine wpAny_execs_cons ?_
  cases hc with
  | no => exact init_s5n (H.weak (by decide)) va vt (fun _ h1 tk1 F1 N1 => five (fun _ => rfl) h1 tk1 F1 N1) fun e a0 h' tk' bd fl up => bd.elim
  | num n t => exact init_s5i (H.weak (by decide)) va vt (fun ha h1 tk1 F1 N1 => five (fun h => by rw [ha] at h; cases h) h1 tk1 F1 N1) fun e a0 h' tk' bd fl up => hraise (fun hh => by cases hh.1 bd) e a0 h' tk' fl (up_back SU up)
  | tup k1 k2 => exact init_s5r (H.weak (by decide)) va vt (fun ha h1 tk1 F1 N1 => five (fun h => by rw [ha] at h; cases h) h1 tk1 F1 N1) fun e a0 h' tk' bd fl up => hraise (fun hh => by cases hh.1 bd) e a0 h' tk' fl (up_back SU up)
end Mine
end
section
variable {w : World} {p : Program} {loose : List Str} {mean : ExcName → Option Value} {mg mb : Str → Option Value}
theorem Mine.k19 : True := by
 k_with "s lk" => (((try dsimp only); repeat (first | assumption | exact if_pos rfl | (refine Eq.trans (if_neg ?_) ?_; (focus decide)))))
 trivial
namespace Mine
inductive GreyIs : Value → Option Bool → Prop
  | D : GreyIs (.ref 236) none
  | b (g : Bool) : GreyIs (.bool g) (some g)
def Spread (n : Nat) (qs qs' : List Int) : Prop := (qs.length = 1 → qs' = List.replicate n (qs.headD 0)) ∧ (qs.length ≠ 1 → qs' = qs)
theorem ints_rep {v : Int} {t : Tok} : ∀ n, IntsAre (List.replicate n (Value.int v t)) (List.replicate n v)
  | 0 => .nil
  | n + 1 => .cons v t (ints_rep n)
theorem stage14
  {dp un : Nat} {nm : Str} {fa : Addr} {cd : Value} {l : List Env} {h₀ : Heap} {L : Addr} {m : Str → Option Value} {frs obj : Mine.Led} {s : Shared} {Q : Flow → Shared → Prop} {R : Result → Shared → Prop} {rest : List Stmt} {c : Addr} {vs : List Value} {qs : List Int} {n : Nat} {u : Tok} (S : St w p loose mean mg mb dp un l h₀ L frs obj m s.heap) (hc : (c, ({ cls := .type "tuple", data := .seq vs.toArray } : Obj)) ∈ obj) (hi : IntsAre vs qs) (hlen : qs.length ≤ 6) (vb : m "bitdepth" = some (.ref c)) (vp : m "planes" = some (.int n u)) (h1 : 1 ≤ n) (h4 : n ≤ 4)
  (hret : ∀ c' vs' qs' h' tk', Spread n qs qs' → IntsAre vs' qs' → ∀ m' : PySem.Str → Option Value, m' "bitdepth" = some (.ref c') → (∀ y : PySem.Str, y ≠ "bitdepth" → m' y = m y) → St w p loose mean mg mb dp un l h₀ L frs ((c', ({ cls := .type "tuple", data := .seq vs'.toArray } : Obj)) :: obj) m' h' → wpAny (model rw_ar0036_02.row.prog w) ((Mine.Fa dp un (some []) l).deeper (envOf nm Mine.initScope L fa cd)) (execs (rest) (envOf nm Mine.initScope L fa cd)) Q (Mine.Out w ((Mine.Fa dp un (some []) l).deeper (envOf nm Mine.initScope L fa cd)) (envOf nm Mine.initScope L fa cd) R) { s with heap := h', toks := tk' }) : wpAny (model rw_ar0036_02.row.prog w) ((Mine.Fa dp un (some []) l).deeper (envOf nm Mine.initScope L fa cd)) (execs (initAt 14 :: rest) (envOf nm Mine.initScope L fa cd)) Q (Mine.Out w ((Mine.Fa dp un (some []) l).deeper (envOf nm Mine.initScope L fa cd)) (envOf nm Mine.initScope L fa cd) R) s := by
  obtain ⟨nw, frs', SU, H, ho⟩ := S.ex
  have hl := IntsAre.length hi
  refine wpAny_execs_cons ?_
  by_cases h : vs.length = 1
  · cases hi with
    | nil => cases h
    | cons q t r =>
      cases r with
      | cons _ _ _ => simp at h
      | nil =>
        refine init_s14a (H.weak (by decide)) (ho _ hc) vb vp (by omega) (by omega) fun c' h2 tk2 nw2 F2 N2 s2 hm2 => ?_
        have e : ((n : Int)).toNat = n := Int.toNat_natCast n
        rw [e] at hm2
        have H2 := H.next F2 N2 (fun p hp => s2 p (H.sub p hp))
        refine hret c' (List.replicate n (Value.int q t)) (List.replicate n q) h2 tk2 ⟨fun _ => rfl, fun k => absurd rfl k⟩ (ints_rep n) _ (if_pos rfl) (fun y k => if_neg k) ⟨⟨nw2, frs', SU, H2, fun p hp => ?_⟩, fun p hp q hq => ?_⟩
        · rcases List.mem_cons.mp hp with rfl | hp
          · exact hm2
          · exact s2 p (ho p hp)
        · rcases List.mem_cons.mp hp with rfl | hp
          · exact apart_seq SU H2 hm2 ⟨_, _, rfl⟩ q hq
          · exact S.ap p hp q hq
  · refine init_s14b (H.weak (by decide)) (ho _ hc) (by omega) h vb fun h2 tk2 F2 N2 => ?_
    refine hret c vs qs h2 tk2 ⟨fun k => absurd (hl.trans k) h, fun _ => rfl⟩ hi m vb (fun _ _ => rfl) ⟨⟨nw, frs', SU, H.now F2 N2, fun p hp => ?_⟩, fun p hp q hq => ?_⟩
    · rcases List.mem_cons.mp hp with rfl | hp
      · exact ho _ hc
      · exact ho p hp
    · rcases List.mem_cons.mp hp with rfl | hp
      · exact S.ap _ hc q hq
      · exact S.ap p hp q hq
theorem stageCn
  {dp un : Nat} {nm : Str} {fa : Addr} {cd : Value} {l : List Env} {h₀ : Heap} {L : Addr} {m : Str → Option Value} {frs obj : Mine.Led} {s : Shared} {Q : Flow → Shared → Prop} {R : Result → Shared → Prop} {rest : List Stmt} {al : Bool} {gv : Value} {go : Option Bool} {c : Addr} {vs : List Value} {qs : List Int} (S : St w p loose mean mg mb dp un l h₀ L frs obj m s.heap) (vpal : m "palette" = some .none) (va : m "alpha" = some (.bool al)) (vg : m "greyscale" = some gv) (hg : GreyIs gv go) (vb : m "bitdepth" = some (.ref c)) (hc : (c, ({ cls := .type "tuple", data := .seq vs.toArray } : Obj)) ∈ obj) (hi : IntsAre vs qs) (hlen : qs.length ≤ 6)
  (hret : ∀ m' h' tk' c' vs' qs' u1 u2, Spread ((if go.getD true then 1 else 3) + (if al then 1 else 0)) qs qs' → IntsAre vs' qs' → m' "palette" = some .none → m' "alpha" = some (.bool al) → m' "colormap" = some (.bool false) → m' "greyscale" = some (.bool (go.getD true)) → m' "planes" = some (.int (((if go.getD true then 1 else 3) + (if al then 1 else 0) : Nat)) u1) → m' "color_planes" = some (.int (if go.getD true then 1 else 3) u2) → m' "bitdepth" = some (.ref c') → (∀ n : PySem.Str, n ≠ "palette" → n ≠ "alpha" → n ≠ "colormap" → n ≠ "greyscale" → n ≠ "planes" → n ≠ "color_planes" → n ≠ "bitdepth" → m' n = m n) → St w p loose mean mg mb dp un l h₀ L frs ((c', ({ cls := .type "tuple", data := .seq vs'.toArray } : Obj)) :: obj) m' h' → wpAny (model rw_ar0036_02.row.prog w) ((Mine.Fa dp un (some []) l).deeper (envOf nm Mine.initScope L fa cd)) (execs (rest) (envOf nm Mine.initScope L fa cd)) Q (Mine.Out w ((Mine.Fa dp un (some []) l).deeper (envOf nm Mine.initScope L fa cd)) (envOf nm Mine.initScope L fa cd) R) { s with heap := h', toks := tk' }) : wpAny (model rw_ar0036_02.row.prog w) ((Mine.Fa dp un (some []) l).deeper (envOf nm Mine.initScope L fa cd)) (execs (initAt 8 :: initAt 9 :: initAt 10 :: initAt 11 :: initAt 12 :: initAt 13 :: initAt 14 :: rest) (envOf nm Mine.initScope L fa cd)) Q (Mine.Out w ((Mine.Fa dp un (some []) l).deeper (envOf nm Mine.initScope L fa cd)) (envOf nm Mine.initScope L fa cd) R) s := by
  obtain ⟨nw0, frs', SU, H0, ho0⟩ := S.ex
  refine wpAny_execs_cons (init_s8n (H0.weak (by decide)) vpal fun h1 tk1 nw s1 F1 N1 => ?_)
  have H1 := H0.next F1 N1 (fun p hp => s1 p (H0.sub p hp))
  have ho : ∀ p ∈ obj, p ∈ nw := fun p hp => s1 p (ho0 p hp)
  refine wpAny_execs_cons (init_s9 (s := { s with heap := h1, toks := tk1 }) (al := al) (H1.weak (by decide)) (by walk_at "lk") fun h2 tk2 F2 N2 => ?_)
  have H2 := H1.now F2 N2
  refine wpAny_execs_cons (init_s10n (s := { s with heap := h2, toks := tk2 }) (H2.weak (by decide)) (by walk_at "lk") fun h3 tk3 F3 N3 => ?_)
  have H3 := H2.now F3 N3
  have tail : ∀ (g : Bool) (m4 : PySem.Str → Option Value) (h4 : Heap) (tk4 : Nat), go.getD true = g → m4 "palette" = some .none → m4 "alpha" = some (.bool al) → m4 "colormap" = some (.bool false) → m4 "greyscale" = some (.bool g) → m4 "bitdepth" = some (.ref c) → (∀ n : PySem.Str, n ≠ "palette" → n ≠ "alpha" → n ≠ "colormap" → n ≠ "greyscale" → m4 n = m n) → Here w h₀ L h4 m4 nw frs' l p loose mean mg mb initScope dp un 24 → wpAny (model rw_ar0036_02.row.prog w) ((Mine.Fa dp un (some []) l).deeper (envOf nm Mine.initScope L fa cd)) (execs (initAt 13 :: initAt 14 :: rest) (envOf nm Mine.initScope L fa cd)) Q (Mine.Out w ((Mine.Fa dp un (some []) l).deeper (envOf nm Mine.initScope L fa cd)) (envOf nm Mine.initScope L fa cd) R) { s with heap := h4, toks := tk4 } := by
    intro g m4 h4 tk4 eg w1 w2 w3 w4 w5 w6 H4
    have fin : ∀ (h5 : Heap) (tk5 : Nat) (u1 u2 : Tok), Fr h₀ L h5 (fun y => if y = "planes" then some (Value.int (((if g then 1 else 3) + (if al then 1 else 0) : Nat)) u1) else if y = "color_planes" then some (Value.int (if g then 1 else 3) u2) else m4 y) → News h₀ L h5 nw → wpAny (model rw_ar0036_02.row.prog w) ((Mine.Fa dp un (some []) l).deeper (envOf nm Mine.initScope L fa cd)) (execs (initAt 14 :: rest) (envOf nm Mine.initScope L fa cd)) Q (Mine.Out w ((Mine.Fa dp un (some []) l).deeper (envOf nm Mine.initScope L fa cd)) (envOf nm Mine.initScope L fa cd) R) { s with heap := h5, toks := tk5 } := by
      intro h5 tk5 u1 u2 F5 N5
      have H5 := H4.now F5 N5
      refine stage14 (s := { s with heap := h5, toks := tk5 }) (n := (if g then 1 else 3) + (if al then 1 else 0)) (u := u1) ⟨⟨nw, frs', SU, H5, ho⟩, S.ap⟩ hc hi hlen (by walk_at "lk") (by walk_at "lk") (by cases g <;> cases al <;> decide) (by cases g <;> cases al <;> decide) fun c' vs' qs' h6 tk6 hs hi' m6 v6 u6 S6 => ?_
      have k : ∀ n : PySem.Str, n ≠ "bitdepth" → n ≠ "planes" → n ≠ "color_planes" → m6 n = m4 n := fun n k1 k2 k3 => (u6 n k1).trans ((if_neg k2).trans (if_neg k3))
      subst eg
      exact hret m6 h6 tk6 c' vs' qs' u1 u2 hs hi' ((k _ (by decide) (by decide) (by decide)).trans w1) ((k _ (by decide) (by decide) (by decide)).trans w2) ((k _ (by decide) (by decide) (by decide)).trans w3) ((k _ (by decide) (by decide) (by decide)).trans w4) ((u6 _ (by decide)).trans (by walk_at "lk")) ((u6 _ (by decide)).trans (by walk_at "lk")) v6 (fun n k1 k2 k3 k4 k5 k6 k7 => (k n k7 k5 k6).trans (w6 n k1 k2 k3 k4)) S6
    refine wpAny_execs_cons ?_
    cases g with
    | false =>
      exact init_s13f0 (s := { s with heap := h4, toks := tk4 }) (al := al) (H4.weak (by decide)) w3 w4 w2 fun c1 q1 u1 u2 h5 tk5 e1 e2 F5 N5 => by
        subst e1 e2
        refine fin h5 tk5 u1 u2 ?_ N5
        cases al <;> exact F5
    | true =>
      exact init_s13f1 (s := { s with heap := h4, toks := tk4 }) (al := al) (H4.weak (by decide)) w3 w4 w2 fun c1 q1 u1 u2 h5 tk5 e1 e2 F5 N5 => by
        subst e1 e2
        refine fin h5 tk5 u1 u2 ?_ N5
        cases al <;> exact F5
  cases hg with
  | D =>
    refine wpAny_execs_cons (init_s11Dn (s := { s with heap := h3, toks := tk3 }) (H3.weak (by decide)) (by walk_at "lk") (by walk_at "lk") fun h4 tk4 F4 N4 => ?_)
    have H4 := H3.now F4 N4
    refine wpAny_execs_cons (init_s12D (s := { s with heap := h4, toks := tk4 }) (H4.weak (by decide)) (by walk_at "lk") fun h5 tk5 F5 N5 => ?_)
    exact tail true _ h5 tk5 rfl (by walk_at "lk") (by walk_at "lk") (by walk_at "lk") (by walk_at "lk") (by walk_at "lk") (fun n k1 k2 k3 k4 => (if_neg k4).trans ((if_neg k3).trans ((if_neg k2).trans (if_neg k1)))) (H4.now F5 N5)
  | b g =>
    refine wpAny_execs_cons (init_s11b (s := { s with heap := h3, toks := tk3 }) (g := g) (H3.weak (by decide)) (by walk_at "lk") fun h4 tk4 F4 N4 => ?_)
    have H4 := H3.now F4 N4
    refine wpAny_execs_cons (init_s12b (s := { s with heap := h4, toks := tk4 }) (g := g) (H4.weak (by decide)) (by walk_at "lk") fun h5 tk5 F5 N5 => ?_)
    exact tail g _ h5 tk5 rfl (by walk_at "lk") (by walk_at "lk") (by walk_at "lk") (by walk_at "lk") (by walk_at "lk") (fun n k1 k2 k3 k4 => (if_neg k4).trans ((if_neg k3).trans ((if_neg k2).trans (if_neg k1)))) (H4.now F5 N5)
end Mine
end
section
namespace Mine
def PalGood (es : List (List Int)) : Prop := 0 < es.length ∧ es.length ≤ 256 ∧ palOk false es = true
theorem stageCl {w : World} {p : Program} {loose : List Str} {mean : ExcName → Option Value} {mg mb : Str → Option Value}
  {dp un : Nat} {nm : Str} {fa : Addr} {cd : Value} {l : List Env} {h₀ : Heap} {L : Addr} {m : Str → Option Value} {frs obj : Mine.Led} {s : Shared} {Q : Flow → Shared → Prop} {R : Result → Shared → Prop} {rest : List Stmt} {al : Bool} {gv : Value} {go : Option Bool} {c lp : Addr} {vs ps : List Value} {n : Nat} {es : List (List Int)} {qs : List Int} (S : St w p loose mean mg mb dp un l h₀ L frs obj m s.heap) (vpal : m "palette" = some (.ref lp)) (hlp : (lp, W.listOf ps.toArray n) ∈ obj) (hpa : PalAre obj ps es) (hpl : ps.length ≤ 300) (hel : ∀ e ∈ es, e.length ≤ 8) (va : m "alpha" = some (.bool al)) (vg : m "greyscale" = some gv) (hg : GreyIs gv go) (vb : m "bitdepth" = some (.ref c)) (hc : (c, ({ cls := .type "tuple", data := .seq vs.toArray } : Obj)) ∈ obj) (hi : IntsAre vs qs) (hlen : qs.length ≤ 6)
  (hret : PalGood es → ∀ m' h' tk' c' vs' qs' l2 k u1 u2, Spread 1 qs qs' → IntsAre vs' qs' → m' "palette" = some (.ref l2) → m' "alpha" = some (.bool al) → m' "colormap" = some (.bool true) → m' "greyscale" = some (.bool (go.getD false)) → m' "planes" = some (.int 1 u1) → m' "color_planes" = some (.int 1 u2) → m' "bitdepth" = some (.ref c') → (∀ n : PySem.Str, n ≠ "palette" → n ≠ "alpha" → n ≠ "colormap" → n ≠ "greyscale" → n ≠ "planes" → n ≠ "color_planes" → n ≠ "bitdepth" → m' n = m n) → St w p loose mean mg mb dp un l h₀ L frs ((c', ({ cls := .type "tuple", data := .seq vs'.toArray } : Obj)) :: (l2, W.listOf ps.toArray k) :: obj) m' h' → wpAny (model rw_ar0036_02.row.prog w) ((Mine.Fa dp un (some []) l).deeper (envOf nm Mine.initScope L fa cd)) (execs (rest) (envOf nm Mine.initScope L fa cd)) Q (Mine.Out w ((Mine.Fa dp un (some []) l).deeper (envOf nm Mine.initScope L fa cd)) (envOf nm Mine.initScope L fa cd) R) { s with heap := h', toks := tk' })
  (hraise : ¬ PalGood es → Fails h₀ l frs R s) : wpAny (model rw_ar0036_02.row.prog w) ((Mine.Fa dp un (some []) l).deeper (envOf nm Mine.initScope L fa cd)) (execs (initAt 8 :: initAt 9 :: initAt 10 :: initAt 11 :: initAt 12 :: initAt 13 :: initAt 14 :: rest) (envOf nm Mine.initScope L fa cd)) Q (Mine.Out w ((Mine.Fa dp un (some []) l).deeper (envOf nm Mine.initScope L fa cd)) (envOf nm Mine.initScope L fa cd) R) s := by
  obtain ⟨nw0, frs', SU, H0, ho0⟩ := S.ex
  have hpn := hpa.len
  refine wpAny_execs_cons (init_s8l (H0.weak (by decide)) (ho0 _ hlp) (hpa.mono ho0) hpl hel vpal (fun good l2 k h1 tk1 nw hl2 s1 F1 N1 => ?_) fun e a0 h' tk' bd fl up => hraise bd e a0 h' tk' fl (up_back SU up))
  have H1 := H0.next F1 N1 (fun p hp => s1 p (H0.sub p hp))
  have ho : ∀ p ∈ (l2, W.listOf ps.toArray k) :: obj, p ∈ nw := fun p hp => (List.mem_cons.mp hp).elim (fun h => h ▸ hl2) fun h => s1 p (ho0 p h)
  have hap : ∀ p ∈ (l2, W.listOf ps.toArray k) :: obj, ∀ q ∈ frs, q.1 ≠ p.1 := fun p hp q hq => by
    rcases List.mem_cons.mp hp with rfl | hp
    · exact apart_seq SU H1 hl2 ⟨_, _, rfl⟩ q hq
    · exact S.ap p hp q hq
  have hpsne : ps ≠ [] := fun e => by
    have := good.1
    rw [e] at hpn
    simp at hpn
    rw [← hpn] at this
    simp at this
  refine wpAny_execs_cons (init_s9 (s := { s with heap := h1, toks := tk1 }) (al := al) (H1.weak (by decide)) (by walk_at "lk") fun h2 tk2 F2 N2 => ?_)
  have H2 := H1.now F2 N2
  refine wpAny_execs_cons (init_s10r (s := { s with heap := h2, toks := tk2 }) (lp := l2) (H2.weak (by decide)) hl2 hpsne hpl (by walk_at "lk") fun h3 tk3 F3 N3 => ?_)
  have H3 := H2.now F3 N3
  have tail : ∀ (g : Bool) (m4 : PySem.Str → Option Value) (h4 : Heap) (tk4 : Nat), go.getD false = g → m4 "palette" = some (.ref l2) → m4 "alpha" = some (.bool al) → m4 "colormap" = some (.bool true) → m4 "greyscale" = some (.bool g) → m4 "bitdepth" = some (.ref c) → (∀ n : PySem.Str, n ≠ "palette" → n ≠ "alpha" → n ≠ "colormap" → n ≠ "greyscale" → m4 n = m n) → Here w h₀ L h4 m4 nw frs' l p loose mean mg mb initScope dp un 24 → wpAny (model rw_ar0036_02.row.prog w) ((Mine.Fa dp un (some []) l).deeper (envOf nm Mine.initScope L fa cd)) (execs (initAt 13 :: initAt 14 :: rest) (envOf nm Mine.initScope L fa cd)) Q (Mine.Out w ((Mine.Fa dp un (some []) l).deeper (envOf nm Mine.initScope L fa cd)) (envOf nm Mine.initScope L fa cd) R) { s with heap := h4, toks := tk4 } := by
    intro g m4 h4 tk4 eg w1 w2 w3 w4 w5 w6 H4
    refine wpAny_execs_cons (init_s13t (s := { s with heap := h4, toks := tk4 }) (H4.weak (by decide)) w3 fun u1 u2 h5 tk5 F5 N5 => ?_)
    have H5 := H4.now F5 N5
    refine stage14 (s := { s with heap := h5, toks := tk5 }) (n := 1) (u := u1) ⟨⟨nw, frs', SU, H5, ho⟩, hap⟩ (.tail _ hc) hi hlen (by walk_at "lk") (by walk_at "lk") (by decide) (by decide) fun c' vs' qs' h6 tk6 hs hi' m6 v6 u6 S6 => ?_
    have k6 : ∀ n : PySem.Str, n ≠ "bitdepth" → n ≠ "planes" → n ≠ "color_planes" → m6 n = m4 n := fun n k1 k2 k3 => (u6 n k1).trans ((if_neg k2).trans (if_neg k3))
    subst eg
    exact hret good m6 h6 tk6 c' vs' qs' l2 k u1 u2 hs hi' ((k6 _ (by decide) (by decide) (by decide)).trans w1) ((k6 _ (by decide) (by decide) (by decide)).trans w2) ((k6 _ (by decide) (by decide) (by decide)).trans w3) ((k6 _ (by decide) (by decide) (by decide)).trans w4) ((u6 _ (by decide)).trans (by walk_at "lk")) ((u6 _ (by decide)).trans (by walk_at "lk")) v6 (fun n k1 k2 k3 k4 k5 k8 k7 => (k6 n k7 k5 k8).trans (w6 n k1 k2 k3 k4)) S6
  cases hg with
  | D =>
    refine wpAny_execs_cons (init_s11Dr (s := { s with heap := h3, toks := tk3 }) (lp := l2) (H3.weak (by decide)) hl2 hpsne hpl (by walk_at "lk") (by walk_at "lk") fun h4 tk4 F4 N4 => ?_)
    have H4 := H3.now F4 N4
    refine wpAny_execs_cons (init_s12b (s := { s with heap := h4, toks := tk4 }) (g := false) (H4.weak (by decide)) (by walk_at "lk") fun h5 tk5 F5 N5 => ?_)
    exact tail false _ h5 tk5 rfl (by walk_at "lk") (by walk_at "lk") (by walk_at "lk") (by walk_at "lk") (by walk_at "lk") (fun n k1 k2 k3 k4 => (if_neg k4).trans ((if_neg k4).trans ((if_neg k3).trans ((if_neg k2).trans (if_neg k1))))) (H4.now F5 N5)
  | b g =>
    refine wpAny_execs_cons (init_s11b (s := { s with heap := h3, toks := tk3 }) (g := g) (H3.weak (by decide)) (by walk_at "lk") fun h4 tk4 F4 N4 => ?_)
    have H4 := H3.now F4 N4
    refine wpAny_execs_cons (init_s12b (s := { s with heap := h4, toks := tk4 }) (g := g) (H4.weak (by decide)) (by walk_at "lk") fun h5 tk5 F5 N5 => ?_)
    exact tail g _ h5 tk5 rfl (by walk_at "lk") (by walk_at "lk") (by walk_at "lk") (by walk_at "lk") (by walk_at "lk") (fun n k1 k2 k3 k4 => (if_neg k4).trans ((if_neg k3).trans ((if_neg k2).trans (if_neg k1)))) (H4.now F5 N5)
end Mine
end
section
variable {w : World} {p : Program} {loose : List Str} {mean : ExcName → Option Value} {mg mb : Str → Option Value}
namespace Mine
inductive St2Ex (w : World) (p : Program) (loose : List Str) (mean : ExcName → Option Value) (mg mb : Str → Option Value) (dp un : Nat) (l : List Env) (h₀ : Heap) (L : Addr) (frs : Led) (x d : Addr) (sl : Array (Option Value)) (kvs : List (Str × Value)) (obj : Led) (m : Str → Option Value) (h : Heap) : Prop
  | mk (rest frs' : Led) (es : List DictEntry) (n : Nat) : SameUp frs frs' → Here w h₀ L h m ((d, dictOf es n) :: rest) frs' l p loose mean mg mb initScope dp un 24 → EntsAre w es kvs → (∀ p ∈ frs', p ∈ rest) → (∀ p ∈ rest, p.1 ≠ d) → (x, (⟨.ref 359, some d, .plain, sl⟩ : Obj)) ∈ rest → (∀ p ∈ obj, p ∈ rest) → St2Ex w p loose mean mg mb dp un l h₀ L frs x d sl kvs obj m h
structure St2 (w : World) (p : Program) (loose : List Str) (mean : ExcName → Option Value) (mg mb : Str → Option Value) (dp un : Nat) (l : List Env) (h₀ : Heap) (L : Addr) (frs : Led) (x d : Addr) (sl : Array (Option Value)) (kvs : List (Str × Value)) (obj : Led) (m : Str → Option Value) (h : Heap) : Prop where
  ex : St2Ex w p loose mean mg mb dp un l h₀ L frs x d sl kvs obj m h
  ap : ∀ p ∈ obj, ∀ q ∈ frs, q.1 ≠ p.1
def isSeq (p : Addr × Obj) : Bool := match p.2.data with
  | .seq _ _ => true
  | _ => false
theorem isSeq_of {p : Addr × Obj} (h : isSeq p = true) : ∃ vs n, p.2.data = .seq vs n := by
  unfold isSeq at h
  split at h
  · rename_i a b e; exact ⟨a, b, e⟩
  · cases h
theorem of_isSeq {p : Addr × Obj} (h : ∃ vs n, p.2.data = .seq vs n) : isSeq p = true := by
  obtain ⟨vs, n, e⟩ := h
  unfold isSeq; rw [e]
theorem St.two {dp un : Nat} {l : List Env} {h₀ : Heap} {L : Addr} {frs obj : Led} {m : Str → Option Value} {h : Heap} {x d : Addr} {n0 : Nat} {sl : Array (Option Value)} (S : St w p loose mean mg mb dp un l h₀ L frs obj m h) (hx : (x, (⟨.ref 359, some d, .plain, sl⟩ : Obj)) ∈ obj) (hd : (d, dictOf [] n0) ∈ obj) (hxd : x ≠ d) (hdo : ∀ p ∈ obj, p.1 = d → p = (d, dictOf [] n0)) :
    St2 w p loose mean mg mb dp un l h₀ L frs x d sl [] (obj.filter fun p => p.1 != d) m h := by
  obtain ⟨nw, frs', SU, H, ho⟩ := S.ex
  have hs : ∀ p ∈ frs', p ∈ nw.filter fun p => p.1 != d := fun p hp => List.mem_filter.mpr ⟨H.sub p hp, by
    obtain ⟨q, hq, e⟩ := SameUp.fwd SU p hp
    have := S.ap _ hd q hq
    simpa [e] using this⟩
  refine ⟨⟨nw.filter fun p => p.1 != d, frs', [], n0, SU, H.next H.F (fun p hp => ?_) (fun p hp => .tail _ (hs p hp)), .nil, hs, fun p hp => by simpa using (List.mem_filter.mp hp).2, List.mem_filter.mpr ⟨ho _ hx, by simpa using hxd⟩, fun p hp => ?_⟩, fun p hp q hq => S.ap p (List.mem_filter.mp hp).1 q hq⟩
  · rcases List.mem_cons.mp hp with rfl | hp
    · exact H.N _ (ho _ hd)
    · exact H.N _ (List.mem_filter.mp hp).1
  · obtain ⟨h1, h2⟩ := List.mem_filter.mp hp
    exact List.mem_filter.mpr ⟨ho _ h1, h2⟩
def fileN (g al : Bool) (qs : List Int) : Int := if g = true ∧ al = false then (if (qs.headD 0 = 1 ∨ qs.headD 0 = 2 ∨ qs.headD 0 = 4 ∨ qs.headD 0 = 8 ∨ qs.headD 0 = 16) then qs.headD 0 else if 8 < qs.headD 0 then 16 else if qs.headD 0 = 3 then 4 else 8) else if ∃ q ∈ qs, 8 < q then 16 else 8
theorem stage15 {dp un : Nat} {l : List Env} {h₀ : Heap} {L : Addr} {frs frs' obj rest nw : Led} {m : Str → Option Value} {h : Heap} {x d : Addr} {n' : Nat} {es' : List DictEntry} {sl : Array (Option Value)} {qs : List Int} {tg : Int} {rr : Value} {news : Led} {m0 : Str → Option Value} {h0 : Heap} (SU : SameUp frs frs') (H : Here w h₀ L h0 m0 news frs' l p loose mean mg mb initScope dp un 24) (ap : ∀ p ∈ obj, ∀ q ∈ frs, q.1 ≠ p.1) (hs : ∀ p ∈ frs', p ∈ rest) (hx : (x, (⟨.ref 359, some d, .plain, sl⟩ : Obj)) ∈ rest) (ho : ∀ p ∈ obj, p ∈ rest)
    (post : CbrPost qs tg rr nw) (e : EntsAre w es' [("rescale", rr)]) (s : ∀ p ∈ rest, p ∈ nw) (ne : ∀ p ∈ nw, p.1 ≠ d) (F : Fr h₀ L h m) (N : News h₀ L h ((d, dictOf es' n') :: nw)) :
    ∃ obj', CbrPost qs tg rr obj' ∧ (∀ p ∈ obj, p ∈ obj') ∧ St2 w p loose mean mg mb dp un l h₀ L frs x d sl [("rescale", rr)] obj' m h := by
  have H' : Here w h₀ L h m ((d, dictOf es' n') :: nw) frs' l p loose mean mg mb initScope dp un 24 := H.next F N fun p hp => .tail _ (s p (hs p hp))
  refine ⟨nw.filter isSeq ++ obj, post.off fun a o ha hq => List.mem_append.mpr (.inl (List.mem_filter.mpr ⟨ha, of_isSeq hq⟩)), fun p hp => List.mem_append.mpr (.inr hp), ⟨⟨nw, frs', es', n', SU, H', e, fun p hp => s p (hs p hp), ne, s _ hx, fun p hp => ?_⟩, fun p hp q hq => ?_⟩⟩
  · rcases List.mem_append.mp hp with hp | hp
    · exact (List.mem_filter.mp hp).1
    · exact s p (ho p hp)
  · rcases List.mem_append.mp hp with hp | hp
    · obtain ⟨h1, h2⟩ := List.mem_filter.mp hp
      exact apart_seq SU H' (.tail _ h1) (isSeq_of h2) q hq
    · exact ap p hp q hq
theorem stageDn
  {dp un : Nat} {nm : Str} {fa : Addr} {cd : Value} {l : List Env} {h₀ : Heap} {L : Addr} {m : Str → Option Value} {frs obj : Mine.Led} {s : Shared} {Q : Flow → Shared → Prop} {R : Result → Shared → Prop} {rest : List Stmt} {x d : Addr} {n0 : Nat} {sl : Array (Option Value)} {al g : Bool} {c : Addr} {vs : List Value} {qs : List Int} {tv : Value} (S : St2 w p loose mean mg mb dp un l h₀ L frs x d sl [] obj m s.heap) (v0 : m "self" = some (.ref x)) (vpal : m "palette" = some .none) (va : m "alpha" = some (.bool al)) (vg : m "greyscale" = some (.bool g)) (vt : m "transparent" = some tv) (vb : m "bitdepth" = some (.ref c)) (hc : (c, ({ cls := .type "tuple", data := .seq vs.toArray } : Obj)) ∈ obj) (hi : IntsAre vs qs) (hlen : qs.length = (if g then 1 else 3) + (if al then 1 else 0)) (hr : ∀ q ∈ qs, 1 ≤ q ∧ q ≤ 16)
  (hret : ∀ m' h' tk' u rr obj', CbrPost qs (fileN g al qs) rr obj' → (∀ p ∈ obj, p ∈ obj') → m' "bitdepth" = some (.int (fileN g al qs) u) → (∀ n : PySem.Str, n ≠ "bitdepth" → m' n = m n) → St2 w p loose mean mg mb dp un l h₀ L frs x d sl [("rescale", rr)] obj' m' h' → wpAny (model rw_ar0036_02.row.prog w) ((Mine.Fa dp un (some []) l).deeper (envOf nm Mine.initScope L fa cd)) (execs (rest) (envOf nm Mine.initScope L fa cd)) Q (Mine.Out w ((Mine.Fa dp un (some []) l).deeper (envOf nm Mine.initScope L fa cd)) (envOf nm Mine.initScope L fa cd) R) { s with heap := h', toks := tk' }) : wpAny (model rw_ar0036_02.row.prog w) ((Mine.Fa dp un (some []) l).deeper (envOf nm Mine.initScope L fa cd)) (execs (initAt 15 :: initAt 16 :: initAt 17 :: rest) (envOf nm Mine.initScope L fa cd)) Q (Mine.Out w ((Mine.Fa dp un (some []) l).deeper (envOf nm Mine.initScope L fa cd)) (envOf nm Mine.initScope L fa cd) R) s := by
  obtain ⟨rs, frs', es, n1, SU, H, he, hs, hne, hx, ho⟩ := S.ex
  cases he
  have hl := IntsAre.length hi
  have fin : ∀ (tg : Int) (u : Tok) (rr : Value) (h1 : Heap) (tk1 : Nat) (es' : List DictEntry) (n' : Nat) (nw : Led), tg = fileN g al qs → (tg < 8 → g = true ∧ al = false) → CbrPost qs tg rr nw → EntsAre w es' [("rescale", rr)] → (∀ p ∈ rs, p ∈ nw) → (∀ p ∈ nw, p.1 ≠ d) → Fr h₀ L h1 (fun y => if y = "bitdepth" then some (.int tg u) else m y) → News h₀ L h1 ((d, dictOf es' n') :: nw) → wpAny (model rw_ar0036_02.row.prog w) ((Mine.Fa dp un (some []) l).deeper (envOf nm Mine.initScope L fa cd)) (execs (initAt 16 :: initAt 17 :: rest) (envOf nm Mine.initScope L fa cd)) Q (Mine.Out w ((Mine.Fa dp un (some []) l).deeper (envOf nm Mine.initScope L fa cd)) (envOf nm Mine.initScope L fa cd) R) { s with heap := h1, toks := tk1 } := by
    intro tg u rr h1 tk1 es' n' nw htg h8 post e2 s2 ne2 F1 N1
    have H1 := H.next F1 N1 (fun p hp => .tail _ (s2 p (hs p hp)))
    refine wpAny_execs_cons (init_s16n (s := { s with heap := h1, toks := tk1 }) (b := tg) (g := g) (al := al) (H1.weak (by decide)) (by walk_at "lk") (by walk_at "lk") (by walk_at "lk") (by walk_at "lk") h8 fun h2 tk2 F2 N2 => ?_)
    have H2 := H1.now F2 N2
    refine wpAny_execs_cons (init_s17n (s := { s with heap := h2, toks := tk2 }) (b := tg) (H2.weak (by decide)) (by walk_at "lk") (by walk_at "lk") fun h3 tk3 F3 N3 => ?_)
    subst htg
    obtain ⟨obj', p1, p2, p3⟩ := stage15 (h := h3) SU H S.ap hs hx ho post e2 s2 ne2 F3 N3
    exact hret _ h3 tk3 u rr obj' p1 p2 (if_pos rfl) (fun n k => if_neg k) p3
  refine wpAny_execs_cons ?_
  by_cases hga : g = true ∧ al = false
  · obtain ⟨rfl, rfl⟩ := hga
    have hl1 : qs.length = 1 := by simpa using hlen
    obtain ⟨q, rfl⟩ := List.length_eq_one_iff.mp hl1
    cases hi with
    | cons _ t r => cases r with
      | nil =>
        refine init_s15G (H.weak (by decide)) hs hne hx .nil v0 (ho _ hc) vb (hr q (.head _)) vpal vt va vg fun tg u rr h1 tk1 es' n' nw htg post e2 s2 ne2 F1 N1 => fin tg u rr h1 tk1 es' n' nw ?_ (fun _ => ⟨rfl, rfl⟩) post e2 s2 ne2 F1 N1
        rw [htg]; unfold fileN; rw [if_pos (⟨rfl, rfl⟩ : true = true ∧ false = false)]; rfl
  · have hf : fileN g al qs = if ∃ q ∈ qs, 8 < q then 16 else 8 := by unfold fileN; rw [if_neg hga]
    refine init_s15C (H.weak (by decide)) hs hne hx .nil v0 (ho _ hc) vb hi hr (by rw [hl, hlen]; cases g <;> cases al <;> simp_all) (by rw [hl, hlen]; cases g <;> cases al <;> simp_all) (by cases g <;> cases al <;> simp_all) vpal vt va vg fun tg u rr h1 tk1 es' n' nw htg post e2 s2 ne2 F1 N1 => fin tg u rr h1 tk1 es' n' nw (htg.trans hf.symm) (fun h8 => ?_) post e2 s2 ne2 F1 N1
    rw [htg] at h8
    split at h8 <;> omega
theorem stageDl
  {dp un : Nat} {nm : Str} {fa : Addr} {cd : Value} {l : List Env} {h₀ : Heap} {L : Addr} {m : Str → Option Value} {frs obj : Mine.Led} {s : Shared} {Q : Flow → Shared → Prop} {R : Result → Shared → Prop} {rest : List Stmt} {x d : Addr} {n0 : Nat} {sl : Array (Option Value)} {al g : Bool} {c lp : Addr} {vs ps : List Value} {k : Nat} {q : Int} {tv : Value} {tc : Col} (S : St2 w p loose mean mg mb dp un l h₀ L frs x d sl [] obj m s.heap) (v0 : m "self" = some (.ref x)) (vpal : m "palette" = some (.ref lp)) (hlp : (lp, W.listOf ps.toArray k) ∈ obj) (hps : ps ≠ []) (hpl : ps.length ≤ 300) (va : m "alpha" = some (.bool al)) (vg : m "greyscale" = some (.bool g)) (vt : m "transparent" = some tv) (htc : ColIs obj tv tc) (vb : m "bitdepth" = some (.ref c)) (hc : (c, ({ cls := .type "tuple", data := .seq vs.toArray } : Obj)) ∈ obj) (hi : IntsAre vs [q])
  (hret : (q = 1 ∨ q = 2 ∨ q = 4 ∨ q = 8) → tc = .no → al = false → g = false → ∀ m' h' tk' u rr obj', CbrPost [q] q rr obj' → (∀ p ∈ obj, p ∈ obj') → m' "bitdepth" = some (.int q u) → (∀ n : PySem.Str, n ≠ "bitdepth" → m' n = m n) → St2 w p loose mean mg mb dp un l h₀ L frs x d sl [("rescale", rr)] obj' m' h' → wpAny (model rw_ar0036_02.row.prog w) ((Mine.Fa dp un (some []) l).deeper (envOf nm Mine.initScope L fa cd)) (execs (rest) (envOf nm Mine.initScope L fa cd)) Q (Mine.Out w ((Mine.Fa dp un (some []) l).deeper (envOf nm Mine.initScope L fa cd)) (envOf nm Mine.initScope L fa cd) R) { s with heap := h', toks := tk' })
  (hraise : ¬ ((q = 1 ∨ q = 2 ∨ q = 4 ∨ q = 8) ∧ tc = .no ∧ al = false ∧ g = false) → Fails h₀ l frs R s) : wpAny (model rw_ar0036_02.row.prog w) ((Mine.Fa dp un (some []) l).deeper (envOf nm Mine.initScope L fa cd)) (execs (initAt 15 :: initAt 16 :: initAt 17 :: rest) (envOf nm Mine.initScope L fa cd)) Q (Mine.Out w ((Mine.Fa dp un (some []) l).deeper (envOf nm Mine.initScope L fa cd)) (envOf nm Mine.initScope L fa cd) R) s := by
  obtain ⟨rs, frs', es, n1, SU, H, he, hs, hne, hx, ho⟩ := S.ex
  cases he
  refine wpAny_execs_cons ?_
  cases hi with
  | cons _ t r => cases r with
    | nil => cases htc with
      | no =>
        refine init_s15Pn (H.weak (by decide)) hs hne hx .nil v0 (ho _ hc) vb (ho _ hlp) hps hpl vpal va vg vt (fun tg u rr h1 tk1 es' n' nw gd htg post e2 s2 ne2 F1 N1 => ?_) fun e a0 h' tk' bd fl up => hraise (fun hh => bd ⟨hh.1, hh.2.2.1, hh.2.2.2⟩) e a0 h' tk' fl (up_back SU up)
        have H1 := H.next F1 N1 (fun p hp => .tail _ (s2 p (hs p hp)))
        have hlp1 : (lp, W.listOf ps.toArray k) ∈ (d, dictOf es' n') :: nw := .tail _ (s2 _ (ho _ hlp))
        subst htg
        refine wpAny_execs_cons (init_s16r (s := { s with heap := h1, toks := tk1 }) (b := tg) (g := g) (al := al) (lp := lp) (H1.weak (by decide)) hlp1 hps hpl (by walk_at "lk") (by walk_at "lk") (by walk_at "lk") (by walk_at "lk") (fun _ => gd.2.1) fun h2 tk2 F2 N2 => ?_)
        have H2 := H1.now F2 N2
        refine wpAny_execs_cons (init_s17r (s := { s with heap := h2, toks := tk2 }) (b := tg) (H2.weak (by decide)) (by walk_at "lk") (by omega) fun h3 tk3 F3 N3 => ?_)
        obtain ⟨obj', p1, p2, p3⟩ := stage15 (h := h3) SU H S.ap hs hx ho post e2 s2 ne2 F3 N3
        exact hret gd.1 rfl gd.2.1 gd.2.2 _ h3 tk3 u rr obj' p1 p2 (if_pos rfl) (fun n k => if_neg k) p3
      | num n t => exact init_s15Pi (H.weak (by decide)) hs hne hx .nil v0 (ho _ hc) vb (ho _ hlp) hps hpl vpal va vg vt fun e a0 h' tk' bd fl up => hraise (fun hh => by cases hh.2.1) e a0 h' tk' fl (up_back SU up)
      | tup k1 k2 => exact init_s15Pr (H.weak (by decide)) hs hne hx .nil v0 (ho _ hc) vb (ho _ hlp) hps hpl vpal va vg vt fun e a0 h' tk' bd fl up => hraise (fun hh => by cases hh.2.1) e a0 h' tk' fl (up_back SU up)
end Mine
end
section
variable {w : World} {p : Program} {loose : List Str} {mean : ExcName → Option Value} {mg mb : Str → Option Value}
namespace Mine
theorem apart_nd {w : World} {h₀ : Heap} {L : Addr} {h : Heap} {m : Str → Option Value} {nw frs' : Led} {l : List Env} {p : Program} {loose : List Str} {mean : ExcName → Option Value} {mg mb : Str → Option Value} {cs : Scope} {dp un bud : Nat} (H : Here w h₀ L h m nw frs' l p loose mean mg mb cs dp un bud) {a : Addr} {o : Obj} (ha : (a, o) ∈ nw) (hs : ∀ es n, o.data ≠ .dict es n) : ∀ q ∈ frs', q.1 ≠ a := by
  rintro q hq rfl
  obtain ⟨es, ep, hd⟩ := H.Fs.dict _ hq
  have e1 := (H.N _ (H.sub _ hq)).1
  have e2 := (H.N _ ha).1
  dsimp only at e1 e2
  rw [e1] at e2
  cases e2
  exact hs _ _ hd
def ColForm (g : Bool) : Col → Prop
  | .no => True
  | .num n => g = true ∧ 0 ≤ n
  | .tup qs => if g = true then qs.length = 1 ∨ qs.length = 2 else qs.length = 3 ∨ qs.length = 4
def ColGood (g : Bool) : Col → Prop
  | .no => True
  | .num _ => True
  | .tup qs => qs.length = (if g = true then 1 else 3) ∧ ∀ q ∈ qs, 0 ≤ q
def colOut : Col → Col
  | .num n => .tup [n]
  | c => c
theorem stage18
  {dp un : Nat} {nm : Str} {fa : Addr} {cd : Value} {l : List Env} {h₀ : Heap} {L : Addr} {m : Str → Option Value} {frs obj : Mine.Led} {s : Shared} {Q : Flow → Shared → Prop} {R : Result → Shared → Prop} {rest : List Stmt} {x d : Addr} {n0 : Nat} {sl : Array (Option Value)} {g : Bool} {tv : Value} {tc : Col} {kvs : List (PySem.Str × Value)} (S : St2 w p loose mean mg mb dp un l h₀ L frs x d sl kvs obj m s.heap) (vt : m "transparent" = some tv) (vg : m "greyscale" = some (.bool g)) (hc : ColIs obj tv tc) (hf : ColForm g tc)
  (hret : ColGood g tc → ∀ m' h' tk' tv' obj', ColIs obj' tv' (colOut tc) → (∀ p ∈ obj, p ∈ obj') → m' "transparent" = some tv' → (∀ n : PySem.Str, n ≠ "transparent" → m' n = m n) → St2 w p loose mean mg mb dp un l h₀ L frs x d sl kvs obj' m' h' → wpAny (model rw_ar0036_02.row.prog w) ((Mine.Fa dp un (some []) l).deeper (envOf nm Mine.initScope L fa cd)) (execs (rest) (envOf nm Mine.initScope L fa cd)) Q (Mine.Out w ((Mine.Fa dp un (some []) l).deeper (envOf nm Mine.initScope L fa cd)) (envOf nm Mine.initScope L fa cd) R) { s with heap := h', toks := tk' })
  (hraise : ¬ ColGood g tc → Fails h₀ l frs R s) : wpAny (model rw_ar0036_02.row.prog w) ((Mine.Fa dp un (some []) l).deeper (envOf nm Mine.initScope L fa cd)) (execs (initAt 18 :: rest) (envOf nm Mine.initScope L fa cd)) Q (Mine.Out w ((Mine.Fa dp un (some []) l).deeper (envOf nm Mine.initScope L fa cd)) (envOf nm Mine.initScope L fa cd) R) s := by
  obtain ⟨rs, frs', es, n1, SU, H, he, hs, hne, hx, ho⟩ := S.ex
  have fin : ColGood g tc → ∀ (v' : Value) (h1 : Heap) (tk1 : Nat) (nw : Led), ColIs obj v' (colOut tc) → Fr h₀ L h1 (fun y => if y = "transparent" then some v' else m y) → News h₀ L h1 nw → (∀ p ∈ (d, dictOf es n1) :: rs, p ∈ nw) → wpAny (model rw_ar0036_02.row.prog w) ((Mine.Fa dp un (some []) l).deeper (envOf nm Mine.initScope L fa cd)) (execs (rest) (envOf nm Mine.initScope L fa cd)) Q (Mine.Out w ((Mine.Fa dp un (some []) l).deeper (envOf nm Mine.initScope L fa cd)) (envOf nm Mine.initScope L fa cd) R) { s with heap := h1, toks := tk1 } := by
    intro good v' h1 tk1 nw hv F1 N1 s1
    obtain ⟨nw2, N2, s2, n2, o2⟩ := front N1 hne s1 ⟨_, _, rfl⟩
    exact hret good _ h1 tk1 v' obj hv (fun p hp => hp) (if_pos rfl) (fun n k => if_neg k) ⟨⟨nw2, frs', es, n1, SU, H.next F1 N2 (fun p hp => .tail _ (s2 p (hs p hp))), he, fun p hp => s2 p (hs p hp), n2, s2 _ hx, fun p hp => s2 p (ho p hp)⟩, S.ap⟩
  refine wpAny_execs_cons ?_
  cases hc with
  | no => exact init_s18n (g := g) (H.weak (by decide)) vt vg fun h1 tk1 nw F1 N1 s1 => fin trivial .none h1 tk1 nw .no F1 N1 s1
  | num n t =>
    obtain ⟨hg9, hn⟩ := hf
    refine init_s18i (H.weak (by decide)) hn vt (hg9 ▸ vg) fun a u frs2 h1 tk1 nw SU2 Fs2 s2 keep fr ha F1 N1 => ?_
    have H1 : Here w h₀ L h1 (fun y => if y = "transparent" then some (.ref a) else m y) nw frs2 l p loose mean mg mb initScope dp un 24 := ⟨F1, H.X, N1, H.T, Fs2, s2, H.k, H.d, H.u⟩
    have hd1 : (d, dictOf es n1) ∈ nw := keep _ (.head _) fun q hq => hne q (hs q hq)
    have hx1 : (x, (⟨.ref 359, some d, .plain, sl⟩ : Obj)) ∈ nw := keep _ (.tail _ hx) (apart_nd H (.tail _ hx) fun _ _ e => by cases e)
    have hne1 : ∀ p ∈ nw.filter (fun p => p.1 != d), p.1 ≠ d := fun p hp => by simpa using (List.mem_filter.mp hp).2
    have inr : ∀ (b : Addr) (o : Obj), (b, o) ∈ nw → b ≠ d → (b, o) ∈ nw.filter (fun p => p.1 != d) := fun b o hb hbd => List.mem_filter.mpr ⟨hb, by simpa using hbd⟩
    have SU3 := SameUp.trans SU SU2
    have hfd : ∀ p ∈ frs2, p.1 ≠ d := fun p hp => by
      obtain ⟨q, hq, e⟩ := SameUp.fwd SU2 p hp
      rw [e]; exact hne q (hs q hq)
    have had : a ≠ d := by
      intro e9
      have e1 := (N1 _ ha).1
      have e2 := (N1 _ hd1).1
      dsimp only at e1 e2
      rw [← e9, e1] at e2
      exact absurd (Value.type.inj (congrArg Obj.cls (Option.some.inj e2))) (by decide)
    have hob : ∀ p ∈ obj, p ∈ nw.filter (fun p => p.1 != d) := fun p hp => by
      refine inr p.1 p.2 (keep _ (.tail _ (ho p hp)) fun q hq => ?_) (hne p (ho p hp))
      obtain ⟨q0, hq0, e⟩ := SameUp.fwd SU q hq
      rw [e]; exact S.ap p hp q0 hq0
    refine hret trivial _ h1 tk1 (.ref a) ((a, ({ cls := .type "tuple", data := .seq [Value.int n u].toArray } : Obj)) :: obj) (.tup (.head _) (.cons n u .nil)) (fun p hp => .tail _ hp) (if_pos rfl) (fun n k => if_neg k) ⟨⟨nw.filter (fun p => p.1 != d), frs2, es, n1, SU3, H1.next F1 (fun p hp => ?_) (fun p hp => .tail _ (inr _ _ (s2 p hp) (hfd p hp))), he, fun p hp => inr _ _ (s2 p hp) (hfd p hp), hne1, inr _ _ hx1 (hne _ hx), fun p hp => ?_⟩, fun p hp q hq => ?_⟩
    · rcases List.mem_cons.mp hp with rfl | hp
      · exact N1 _ hd1
      · exact N1 _ (List.mem_filter.mp hp).1
    · rcases List.mem_cons.mp hp with rfl | hp
      · exact inr _ _ ha had
      · exact hob p hp
    · rcases List.mem_cons.mp hp with rfl | hp
      · exact apart_seq SU3 H1 ha ⟨_, _, rfl⟩ q hq
      · exact S.ap p hp q hq
  | @tup c0 vs0 qs0 hm hi =>
    have hm' := ho _ hm
    cases g with
    | true =>
      replace hf : qs0.length = 1 ∨ qs0.length = 2 := hf
      rcases hf with h | h
      · cases hi with
        | nil => cases h
        | cons q t r => cases r with
          | nil =>
            refine init_s18g1 (H.weak (by decide)) (.tail _ hm') vt vg (fun h0 h1 tk1 nw F1 N1 s1 f1 => fin ⟨rfl, fun z hz => by rw [List.mem_singleton.mp hz]; exact h0⟩ _ h1 tk1 nw (.tup hm (.cons q t .nil)) F1 N1 s1) fun e a0 h' tk' bd fl up => hraise (fun hh => bd (hh.2 q (.head _))) e a0 h' tk' fl (up_back SU up)
          | cons q2 t2 r => cases h
      · cases hi with
        | nil => cases h
        | cons q t r => cases r with
          | nil => cases h
          | cons q2 t2 r => cases r with
            | nil => exact init_s18g2 (H.weak (by decide)) (.tail _ hm') vt vg fun e a0 h' tk' bd fl up => hraise (fun hh => by cases hh.1) e a0 h' tk' fl (up_back SU up)
            | cons q3 t3 r => cases h
    | false =>
      replace hf : qs0.length = 3 ∨ qs0.length = 4 := hf
      cases hi with
      | nil => rcases hf with h | h <;> cases h
      | cons q t r => cases r with
        | nil => rcases hf with h | h <;> cases h
        | cons q2 t2 r => cases r with
          | nil => rcases hf with h | h <;> cases h
          | cons q3 t3 r => cases r with
            | nil =>
              refine init_s18t3 (H.weak (by decide)) (.tail _ hm') vt vg (fun a1 a2 a3 h1 tk1 nw F1 N1 s1 f1 => fin ⟨rfl, fun z hz => ?_⟩ _ h1 tk1 nw (.tup hm (.cons q t (.cons q2 t2 (.cons q3 t3 .nil)))) F1 N1 s1) fun e a0 h' tk' bd fl up => hraise (fun hh => bd ⟨hh.2 q (.head _), hh.2 q2 (.tail _ (.head _)), hh.2 q3 (.tail _ (.tail _ (.head _)))⟩) e a0 h' tk' fl (up_back SU up)
              simp only [List.mem_cons, List.not_mem_nil, or_false] at hz
              rcases hz with rfl | rfl | rfl <;> assumption
            | cons q4 t4 r => cases r with
              | nil => exact init_s18t4 (H.weak (by decide)) (.tail _ hm') vt vg fun e a0 h' tk' bd fl up => hraise (fun hh => by cases hh.1) e a0 h' tk' fl (up_back SU up)
              | cons q5 t5 r => rcases hf with h | h <;> cases h
theorem stage19
  {dp un : Nat} {nm : Str} {fa : Addr} {cd : Value} {l : List Env} {h₀ : Heap} {L : Addr} {m : Str → Option Value} {frs obj : Mine.Led} {s : Shared} {Q : Flow → Shared → Prop} {R : Result → Shared → Prop} {rest : List Stmt} {x d : Addr} {n0 : Nat} {sl : Array (Option Value)} {g : Bool} {tv : Value} {tc : Col} {kvs : List (PySem.Str × Value)} (S : St2 w p loose mean mg mb dp un l h₀ L frs x d sl kvs obj m s.heap) (vt : m "background" = some tv) (vg : m "greyscale" = some (.bool g)) (hc : ColIs obj tv tc) (hf : ColForm g tc)
  (hret : ColGood g tc → ∀ m' h' tk' tv' obj', ColIs obj' tv' (colOut tc) → (∀ p ∈ obj, p ∈ obj') → m' "background" = some tv' → (∀ n : PySem.Str, n ≠ "background" → m' n = m n) → St2 w p loose mean mg mb dp un l h₀ L frs x d sl kvs obj' m' h' → wpAny (model rw_ar0036_02.row.prog w) ((Mine.Fa dp un (some []) l).deeper (envOf nm Mine.initScope L fa cd)) (execs (rest) (envOf nm Mine.initScope L fa cd)) Q (Mine.Out w ((Mine.Fa dp un (some []) l).deeper (envOf nm Mine.initScope L fa cd)) (envOf nm Mine.initScope L fa cd) R) { s with heap := h', toks := tk' })
  (hraise : ¬ ColGood g tc → Fails h₀ l frs R s) : wpAny (model rw_ar0036_02.row.prog w) ((Mine.Fa dp un (some []) l).deeper (envOf nm Mine.initScope L fa cd)) (execs (initAt 19 :: rest) (envOf nm Mine.initScope L fa cd)) Q (Mine.Out w ((Mine.Fa dp un (some []) l).deeper (envOf nm Mine.initScope L fa cd)) (envOf nm Mine.initScope L fa cd) R) s := by
  obtain ⟨rs, frs', es, n1, SU, H, he, hs, hne, hx, ho⟩ := S.ex
  have fin : ColGood g tc → ∀ (v' : Value) (h1 : Heap) (tk1 : Nat) (nw : Led), ColIs obj v' (colOut tc) → Fr h₀ L h1 (fun y => if y = "background" then some v' else m y) → News h₀ L h1 nw → (∀ p ∈ (d, dictOf es n1) :: rs, p ∈ nw) → wpAny (model rw_ar0036_02.row.prog w) ((Mine.Fa dp un (some []) l).deeper (envOf nm Mine.initScope L fa cd)) (execs (rest) (envOf nm Mine.initScope L fa cd)) Q (Mine.Out w ((Mine.Fa dp un (some []) l).deeper (envOf nm Mine.initScope L fa cd)) (envOf nm Mine.initScope L fa cd) R) { s with heap := h1, toks := tk1 } := by
    intro good v' h1 tk1 nw hv F1 N1 s1
    obtain ⟨nw2, N2, s2, n2, o2⟩ := front N1 hne s1 ⟨_, _, rfl⟩
    exact hret good _ h1 tk1 v' obj hv (fun p hp => hp) (if_pos rfl) (fun n k => if_neg k) ⟨⟨nw2, frs', es, n1, SU, H.next F1 N2 (fun p hp => .tail _ (s2 p (hs p hp))), he, fun p hp => s2 p (hs p hp), n2, s2 _ hx, fun p hp => s2 p (ho p hp)⟩, S.ap⟩
  refine wpAny_execs_cons ?_
  cases hc with
  | no => exact init_s19n (g := g) (H.weak (by decide)) vt vg fun h1 tk1 nw F1 N1 s1 => fin trivial .none h1 tk1 nw .no F1 N1 s1
  | num n t =>
    obtain ⟨hg9, hn⟩ := hf
    refine init_s19i (H.weak (by decide)) hn vt (hg9 ▸ vg) fun a u frs2 h1 tk1 nw SU2 Fs2 s2 keep fr ha F1 N1 => ?_
    have H1 : Here w h₀ L h1 (fun y => if y = "background" then some (.ref a) else m y) nw frs2 l p loose mean mg mb initScope dp un 24 := ⟨F1, H.X, N1, H.T, Fs2, s2, H.k, H.d, H.u⟩
    have hd1 : (d, dictOf es n1) ∈ nw := keep _ (.head _) fun q hq => hne q (hs q hq)
    have hx1 : (x, (⟨.ref 359, some d, .plain, sl⟩ : Obj)) ∈ nw := keep _ (.tail _ hx) (apart_nd H (.tail _ hx) fun _ _ e => by cases e)
    have hne1 : ∀ p ∈ nw.filter (fun p => p.1 != d), p.1 ≠ d := fun p hp => by simpa using (List.mem_filter.mp hp).2
    have inr : ∀ (b : Addr) (o : Obj), (b, o) ∈ nw → b ≠ d → (b, o) ∈ nw.filter (fun p => p.1 != d) := fun b o hb hbd => List.mem_filter.mpr ⟨hb, by simpa using hbd⟩
    have SU3 := SameUp.trans SU SU2
    have hfd : ∀ p ∈ frs2, p.1 ≠ d := fun p hp => by
      obtain ⟨q, hq, e⟩ := SameUp.fwd SU2 p hp
      rw [e]; exact hne q (hs q hq)
    have had : a ≠ d := by
      intro e9
      have e1 := (N1 _ ha).1
      have e2 := (N1 _ hd1).1
      dsimp only at e1 e2
      rw [← e9, e1] at e2
      exact absurd (Value.type.inj (congrArg Obj.cls (Option.some.inj e2))) (by decide)
    have hob : ∀ p ∈ obj, p ∈ nw.filter (fun p => p.1 != d) := fun p hp => by
      refine inr p.1 p.2 (keep _ (.tail _ (ho p hp)) fun q hq => ?_) (hne p (ho p hp))
      obtain ⟨q0, hq0, e⟩ := SameUp.fwd SU q hq
      rw [e]; exact S.ap p hp q0 hq0
    refine hret trivial _ h1 tk1 (.ref a) ((a, ({ cls := .type "tuple", data := .seq [Value.int n u].toArray } : Obj)) :: obj) (.tup (.head _) (.cons n u .nil)) (fun p hp => .tail _ hp) (if_pos rfl) (fun n k => if_neg k) ⟨⟨nw.filter (fun p => p.1 != d), frs2, es, n1, SU3, H1.next F1 (fun p hp => ?_) (fun p hp => .tail _ (inr _ _ (s2 p hp) (hfd p hp))), he, fun p hp => inr _ _ (s2 p hp) (hfd p hp), hne1, inr _ _ hx1 (hne _ hx), fun p hp => ?_⟩, fun p hp q hq => ?_⟩
    · rcases List.mem_cons.mp hp with rfl | hp
      · exact N1 _ hd1
      · exact N1 _ (List.mem_filter.mp hp).1
    · rcases List.mem_cons.mp hp with rfl | hp
      · exact inr _ _ ha had
      · exact hob p hp
    · rcases List.mem_cons.mp hp with rfl | hp
      · exact apart_seq SU3 H1 ha ⟨_, _, rfl⟩ q hq
      · exact S.ap p hp q hq
  | @tup c0 vs0 qs0 hm hi =>
    have hm' := ho _ hm
    cases g with
    | true =>
      replace hf : qs0.length = 1 ∨ qs0.length = 2 := hf
      rcases hf with h | h
      · cases hi with
        | nil => cases h
        | cons q t r => cases r with
          | nil =>
            refine init_s19g1 (H.weak (by decide)) (.tail _ hm') vt vg (fun h0 h1 tk1 nw F1 N1 s1 f1 => fin ⟨rfl, fun z hz => by rw [List.mem_singleton.mp hz]; exact h0⟩ _ h1 tk1 nw (.tup hm (.cons q t .nil)) F1 N1 s1) fun e a0 h' tk' bd fl up => hraise (fun hh => bd (hh.2 q (.head _))) e a0 h' tk' fl (up_back SU up)
          | cons q2 t2 r => cases h
      · cases hi with
        | nil => cases h
        | cons q t r => cases r with
          | nil => cases h
          | cons q2 t2 r => cases r with
            | nil => exact init_s19g2 (H.weak (by decide)) (.tail _ hm') vt vg fun e a0 h' tk' bd fl up => hraise (fun hh => by cases hh.1) e a0 h' tk' fl (up_back SU up)
            | cons q3 t3 r => cases h
    | false =>
      replace hf : qs0.length = 3 ∨ qs0.length = 4 := hf
      cases hi with
      | nil => rcases hf with h | h <;> cases h
      | cons q t r => cases r with
        | nil => rcases hf with h | h <;> cases h
        | cons q2 t2 r => cases r with
          | nil => rcases hf with h | h <;> cases h
          | cons q3 t3 r => cases r with
            | nil =>
              refine init_s19t3 (H.weak (by decide)) (.tail _ hm') vt vg (fun a1 a2 a3 h1 tk1 nw F1 N1 s1 f1 => fin ⟨rfl, fun z hz => ?_⟩ _ h1 tk1 nw (.tup hm (.cons q t (.cons q2 t2 (.cons q3 t3 .nil)))) F1 N1 s1) fun e a0 h' tk' bd fl up => hraise (fun hh => bd ⟨hh.2 q (.head _), hh.2 q2 (.tail _ (.head _)), hh.2 q3 (.tail _ (.tail _ (.head _)))⟩) e a0 h' tk' fl (up_back SU up)
              simp only [List.mem_cons, List.not_mem_nil, or_false] at hz
              rcases hz with rfl | rfl | rfl <;> assumption
            | cons q4 t4 r => cases r with
              | nil => exact init_s19t4 (H.weak (by decide)) (.tail _ hm') vt vg fun e a0 h' tk' bd fl up => hraise (fun hh => by cases hh.1) e a0 h' tk' fl (up_back SU up)
              | cons q5 t5 r => rcases hf with h | h <;> cases h
end Mine
end
section
namespace Mine
theorem stageF {w : World} {p : Program} {loose : List Str} {mean : ExcName → Option Value} {mg mb : Str → Option Value}
  {dp un : Nat} {nm : Str} {fa : Addr} {cd : Value} {l : List Env} {h₀ : Heap} {L : Addr} {m : Str → Option Value} {frs obj : Mine.Led} {s : Shared} {Q : Flow → Shared → Prop} {R : Result → Shared → Prop} {x d : Addr} {n0 : Nat} {sl : Array (Option Value)} {rr vw vh vt vb vk vp cp pl : Value} {g al cm : Bool} {tg lc : Int} {ut ul : Tok} (S : St2 w p loose mean mg mb dp un l h₀ L frs x d sl [("rescale", rr)] obj m s.heap) (v0 : m "self" = some (.ref x)) (v20 : m "width" = some (vw)) (v21 : m "height" = some (vh)) (v22 : m "transparent" = some (vt)) (v23 : m "background" = some (vb)) (v24 : m "greyscale" = some (Value.bool g)) (v25 : m "alpha" = some (Value.bool al)) (v26 : m "colormap" = some (Value.bool cm)) (v27 : m "bitdepth" = some (Value.int tg ut)) (v28 : m "compression" = some (.none)) (v29 : m "chunk_limit" = some (vk)) (v30 : m "interlace" = some (Value.int lc ul)) (v31 : m "palette" = some (vp)) (v32 : m "x_pixels_per_unit" = some (.none)) (v33 : m "y_pixels_per_unit" = some (.none)) (v34 : m "unit_is_meter" = some (Value.bool false)) (v37 : m "color_planes" = some cp) (v38 : m "planes" = some pl) (hcm : cm = true → al = false ∧ g = false)
  (hret : ∀ h' tk' uc, St2 w p loose mean mg mb dp un l h₀ L frs x d sl [("rescale", rr), ("width", vw), ("height", vh), ("transparent", vt), ("background", vb), ("greyscale", Value.bool g), ("alpha", Value.bool al), ("colormap", Value.bool cm), ("bitdepth", Value.int tg ut), ("compression", .none), ("chunk_limit", vk), ("interlace", Value.bool (lc != 0)), ("palette", vp), ("x_pixels_per_unit", .none), ("y_pixels_per_unit", .none), ("unit_is_meter", Value.bool false), ("color_type", Value.int (if cm then 3 else (if g then 0 else 2) + (if al then 4 else 0)) uc), ("color_planes", cp), ("planes", pl)] obj m h' → Q .next { s with heap := h', toks := tk' }) : wpAny (model rw_ar0036_02.row.prog w) ((Mine.Fa dp un (some []) l).deeper (envOf nm Mine.initScope L fa cd)) (execs ([initAt 20, initAt 21, initAt 22, initAt 23, initAt 24, initAt 25, initAt 26, initAt 27, initAt 28, initAt 29, initAt 30, initAt 31, initAt 32, initAt 33, initAt 34, initAt 35, initAt 36, initAt 37, initAt 38]) (envOf nm Mine.initScope L fa cd)) Q (Mine.Out w ((Mine.Fa dp un (some []) l).deeper (envOf nm Mine.initScope L fa cd)) (envOf nm Mine.initScope L fa cd) R) s := by
  obtain ⟨rs, frs', es, n1, SU, H, he, hs, hne, hx, ho⟩ := S.ex
  refine init_fA (H.weak (by decide)) hs hne hx he v0 v20 v21 v22 v23 v24 v25 v26 v27 v28 v29 v30 v31 v32 v33 v34 fun h1 tk1 es1 n2 nw1 e1 s1 ne1 F1 N1 => ?_
  have H1 := H.next F1 N1 (fun p hp => .tail _ (s1 p (hs p hp)))
  have hs1 := fun p hp => s1 p (hs p hp)
  have more : ∀ (ct : Int) (uc : Tok) (h2 : Heap) (tk2 : Nat) (es2 : List DictEntry) (n3 : Nat) (nw2 : Led), ct = (if cm then 3 else (if g then 0 else 2) + (if al then 4 else 0)) → EntsAre w es2 [("rescale", rr), ("width", vw), ("height", vh), ("transparent", vt), ("background", vb), ("greyscale", Value.bool g), ("alpha", Value.bool al), ("colormap", Value.bool cm), ("bitdepth", Value.int tg ut), ("compression", .none), ("chunk_limit", vk), ("interlace", Value.bool (lc != 0)), ("palette", vp), ("x_pixels_per_unit", .none), ("y_pixels_per_unit", .none), ("unit_is_meter", Value.bool false), ("color_type", Value.int ct uc)] → (∀ p ∈ nw1, p ∈ nw2) → (∀ p ∈ nw2, p.1 ≠ d) → Fr h₀ L h2 m → News h₀ L h2 ((d, dictOf es2 n3) :: nw2) → wpAny (model rw_ar0036_02.row.prog w) ((Mine.Fa dp un (some []) l).deeper (envOf nm Mine.initScope L fa cd)) (execs ([initAt 37, initAt 38]) (envOf nm Mine.initScope L fa cd)) Q (Mine.Out w ((Mine.Fa dp un (some []) l).deeper (envOf nm Mine.initScope L fa cd)) (envOf nm Mine.initScope L fa cd) R) { s with heap := h2, toks := tk2 } := by
    intro ct uc h2 tk2 es2 n3 nw2 hct e2 s2 ne2 F2 N2
    have H2 := H1.next F2 N2 (fun p hp => .tail _ (s2 p (hs1 p hp)))
    have hs2 := fun p hp => s2 p (hs1 p hp)
    refine init_fC (s := { s with heap := h2, toks := tk2 }) (ul := ul) (kvs := []) (H2.weak (by decide)) hs2 ne2 (s2 _ (s1 _ hx)) e2 v0 v37 v38 fun h3 tk3 es3 n4 nw3 e3 s3 ne3 F3 N3 => ?_
    have H3 := H2.next F3 N3 (fun p hp => .tail _ (s3 p (hs2 p hp)))
    subst hct
    exact wpAny_execs_nil (hret h3 tk3 uc ⟨⟨nw3, frs', es3, n4, SU, H3, e3, fun p hp => s3 p (hs2 p hp), ne3, s3 _ (s2 _ (s1 _ hx)), fun p hp => s3 p (s2 p (s1 p (ho p hp)))⟩, S.ap⟩)
  cases cm with
  | true =>
    obtain ⟨rfl, rfl⟩ := hcm rfl
    exact init_fB_fft (s := { s with heap := h1, toks := tk1 }) (ul := ul) (vg := .none) (va := .none) (vc := .none) (H1.weak (by decide)) hs1 ne1 (s1 _ hx) e1 v0 v24 fun uc h2 tk2 es2 n3 nw2 e2 s2 ne2 F2 N2 => more 3 uc h2 tk2 es2 n3 nw2 rfl e2 s2 ne2 F2 N2
  | false =>
    cases g with
    | true => cases al with
      | true => exact init_fB_ttf (s := { s with heap := h1, toks := tk1 }) (ul := ul) (vg := .none) (va := .none) (vc := .none) (H1.weak (by decide)) hs1 ne1 (s1 _ hx) e1 v0 v24 fun uc h2 tk2 es2 n3 nw2 e2 s2 ne2 F2 N2 => more 4 uc h2 tk2 es2 n3 nw2 rfl e2 s2 ne2 F2 N2
      | false => exact init_fB_ftf (s := { s with heap := h1, toks := tk1 }) (ul := ul) (vg := .none) (va := .none) (vc := .none) (H1.weak (by decide)) hs1 ne1 (s1 _ hx) e1 v0 v24 fun uc h2 tk2 es2 n3 nw2 e2 s2 ne2 F2 N2 => more 0 uc h2 tk2 es2 n3 nw2 rfl e2 s2 ne2 F2 N2
    | false => cases al with
      | true => exact init_fB_tff (s := { s with heap := h1, toks := tk1 }) (ul := ul) (vg := .none) (va := .none) (vc := .none) (H1.weak (by decide)) hs1 ne1 (s1 _ hx) e1 v0 v24 fun uc h2 tk2 es2 n3 nw2 e2 s2 ne2 F2 N2 => more 6 uc h2 tk2 es2 n3 nw2 rfl e2 s2 ne2 F2 N2
      | false => exact init_fB_fff (s := { s with heap := h1, toks := tk1 }) (ul := ul) (vg := .none) (va := .none) (vc := .none) (H1.weak (by decide)) hs1 ne1 (s1 _ hx) e1 v0 v24 fun uc h2 tk2 es2 n3 nw2 e2 s2 ne2 F2 N2 => more 2 uc h2 tk2 es2 n3 nw2 rfl e2 s2 ne2 F2 N2
end Mine
end
section
variable {w : World} {p : Program} {loose : List Str} {mean : ExcName → Option Value} {mg mb : Str → Option Value}
namespace Mine
theorem St.at_d {dp un : Nat} {l : List Env} {h₀ : Heap} {L : Addr} {frs obj : Led} {m : Str → Option Value} {h : Heap} {d : Addr} {o : Obj} (S : St w p loose mean mg mb dp un l h₀ L frs obj m h) (hd : (d, o) ∈ obj) : ∀ p ∈ obj, p.1 = d → p = (d, o) := by
  obtain ⟨nw, frs', SU, H, ho⟩ := S.ex
  rintro ⟨a, o2⟩ hp rfl
  have e1 := (H.N _ (ho _ hp)).1
  have e2 := (H.N _ (ho _ hd)).1
  dsimp only at e1 e2
  rw [e1] at e2
  cases e2
  rfl
theorem St.seq_at {dp un : Nat} {l : List Env} {h₀ : Heap} {L : Addr} {frs obj : Led} {m : Str → Option Value} {h : Heap} {d : Addr} {n0 : Nat} (S : St w p loose mean mg mb dp un l h₀ L frs obj m h) (hd : (d, dictOf [] n0) ∈ obj) {a : Addr} {o : Obj} (ha : (a, o) ∈ obj) (hs : ∃ vs n, o.data = .seq vs n) : (a, o) ∈ obj.filter fun p => p.1 != d := by
  refine List.mem_filter.mpr ⟨ha, ?_⟩
  simp only [bne_iff_ne, ne_eq]
  intro e
  obtain ⟨vs, n, hq⟩ := hs
  have h9 := congrArg (fun p => p.2.data) (S.at_d hd _ ha e)
  dsimp only at h9
  rw [hq] at h9
  cases h9
theorem St.col_at {dp un : Nat} {l : List Env} {h₀ : Heap} {L : Addr} {frs obj : Led} {m : Str → Option Value} {h : Heap} {d : Addr} {n0 : Nat} (S : St w p loose mean mg mb dp un l h₀ L frs obj m h) (hd : (d, dictOf [] n0) ∈ obj) {v : Value} {cc : Col} (hc : ColIs obj v cc) : ColIs (obj.filter fun p => p.1 != d) v cc := by
  cases hc with
  | no => exact .no
  | num n t => exact .num n t
  | tup hm hi => exact .tup (S.seq_at hd hm ⟨_, _, rfl⟩) hi
theorem spread_len {n : Nat} {qs qs' : List Int} (h : Spread n qs qs') (hl : qs.length = 1 ∨ qs.length = n) : qs'.length = n := by
  by_cases h1 : qs.length = 1
  · rw [h.1 h1, List.length_replicate]
  · rw [h.2 h1]; exact hl.resolve_left h1
theorem spread_mem {n : Nat} {qs qs' : List Int} {P : Int → Prop} (h : Spread n qs qs') (hp : ∀ q ∈ qs, P q) : ∀ q ∈ qs', P q := by
  by_cases h1 : qs.length = 1
  · rw [h.1 h1]
    intro q hq
    rw [(List.mem_replicate.mp hq).2]
    match qs, h1 with
    | [z], _ => exact hp z (.head _)
  · rw [h.2 h1]; exact hp
theorem init_n
  {dp un : Nat} {nm : Str} {fa : Addr} {cd : Value} {l : List Env} {h₀ : Heap} {L : Addr} {m : Str → Option Value} {frs obj : Mine.Led} {s : Shared} {Q : Flow → Shared → Prop} {R : Result → Shared → Prop} {x d : Addr} {n0 : Nat} {sl : Array (Option Value)} {X Y lc : Int} {ok : Prop} {gv tv bv dv vk : Value} {go : Option Bool} {al : Bool} {tc bc : Col} {qs : List Int} {ul : Tok} (S : St w p loose mean mg mb dp un l h₀ L frs obj m s.heap) (hx : (x, (⟨.ref 359, some d, .plain, sl⟩ : Obj)) ∈ obj) (hd : (d, dictOf [] n0) ∈ obj) (hxd : x ≠ d) (v0 : m "self" = some (.ref x)) (hz : SizeIn obj m X Y ok) (bx0 : -10000000000 < X) (bx1 : X < 10000000000) (by0 : -10000000000 < Y) (by1 : Y < 10000000000)
  (vg : m "greyscale" = some gv) (hg : GreyIs gv go) (va : m "alpha" = some (.bool al)) (vd : m "bitdepth" = some dv) (hdp : DepIn obj dv qs) (hqn : qs ≠ []) (hq6 : qs.length ≤ 6) (hqb : ∀ n ∈ qs, -10000000000 < n ∧ n < 10000000000) (vt : m "transparent" = some tv) (htc : ColIs obj tv tc) (vb : m "background" = some bv) (hbc : ColIs obj bv bc)
  (vlc : m "interlace" = some (.int lc ul)) (vco : m "compression" = some .none) (vck : m "chunk_limit" = some vk) (vxp : m "x_pixels_per_unit" = some .none) (vyp : m "y_pixels_per_unit" = some .none) (vum : m "unit_is_meter" = some (.bool false)) (vpal : m "palette" = some .none) (hft : ColForm (go.getD true) tc) (hfb : ColForm (go.getD true) bc) (hql : qs.length = 1 ∨ qs.length = (if go.getD true then 1 else 3) + (if al then 1 else 0))
  (hret : (ok ∧ 0 < X ∧ 0 < Y ∧ X ≤ 2147483647 ∧ Y ≤ 2147483647 ∧ (al = true → tc = .no) ∧ (∀ q ∈ qs, 1 ≤ q ∧ q ≤ 16)) ∧ ColGood (go.getD true) tc ∧ ColGood (go.getD true) bc → ∀ g, go.getD true = g → ∀ m' h' tk' obj' qs' tg rr vt vb ux uy ut uc u1 u2, Spread ((if g then 1 else 3) + (if al then 1 else 0)) qs qs' → tg = fileN g al qs' → CbrPost qs' tg rr obj' → ColIs obj' vt (colOut tc) → ColIs obj' vb (colOut bc) → (∀ p ∈ obj, p.1 ≠ d → p ∈ obj') → St2 w p loose mean mg mb dp un l h₀ L frs x d sl [("rescale", rr), ("width", Value.int X ux), ("height", Value.int Y uy), ("transparent", vt), ("background", vb), ("greyscale", Value.bool g), ("alpha", Value.bool al), ("colormap", Value.bool false), ("bitdepth", Value.int tg ut), ("compression", .none), ("chunk_limit", vk), ("interlace", Value.bool (lc != 0)), ("palette", .none), ("x_pixels_per_unit", .none), ("y_pixels_per_unit", .none), ("unit_is_meter", Value.bool false), ("color_type", Value.int (if false then 3 else (if g then 0 else 2) + (if al then 4 else 0)) uc), ("color_planes", (Value.int (if g then 1 else 3) u2)), ("planes", (Value.int (((if g then 1 else 3) + (if al then 1 else 0) : Nat)) u1))] obj' m' h' → Q .next { s with heap := h', toks := tk' })
  (hraise : ¬ ((ok ∧ 0 < X ∧ 0 < Y ∧ X ≤ 2147483647 ∧ Y ≤ 2147483647 ∧ (al = true → tc = .no) ∧ (∀ q ∈ qs, 1 ≤ q ∧ q ≤ 16)) ∧ ColGood (go.getD true) tc ∧ ColGood (go.getD true) bc) → Fails h₀ l frs R s) : wpAny (model rw_ar0036_02.row.prog w) ((Mine.Fa dp un (some []) l).deeper (envOf nm Mine.initScope L fa cd)) (execs ([initAt 0, initAt 1, initAt 2, initAt 3, initAt 4, initAt 5, initAt 6, initAt 7, initAt 8, initAt 9, initAt 10, initAt 11, initAt 12, initAt 13, initAt 14, initAt 15, initAt 16, initAt 17, initAt 18, initAt 19, initAt 20, initAt 21, initAt 22, initAt 23, initAt 24, initAt 25, initAt 26, initAt 27, initAt 28, initAt 29, initAt 30, initAt 31, initAt 32, initAt 33, initAt 34, initAt 35, initAt 36, initAt 37, initAt 38]) (envOf nm Mine.initScope L fa cd)) Q (Mine.Out w ((Mine.Fa dp un (some []) l).deeper (envOf nm Mine.initScope L fa cd)) (envOf nm Mine.initScope L fa cd) R) s := by
  refine stageA S hz bx0 bx1 by0 by1 (fun a1 a2 a3 a4 a5 m1 h1 tk1 ux uy w1 w2 k1 S1 => ?_) fun bd => hraise fun hh => bd ⟨hh.1.1, hh.1.2.1, hh.1.2.2.1, hh.1.2.2.2.1, hh.1.2.2.2.2.1⟩
  have j1 : ∀ {v} (n : PySem.Str), n ≠ "width" → n ≠ "height" → n ≠ "size" → m n = v → m1 n = v := fun n a b c e => (k1 n a b c).trans e
  refine stageB (s := { s with heap := h1, toks := tk1 }) S1 (j1 _ (by decide) (by decide) (by decide) va) (j1 _ (by decide) (by decide) (by decide) vt) (j1 _ (by decide) (by decide) (by decide) vd) htc hdp hqn hq6 hqb (fun b1 b2 m2 h2 tk2 c vs hi w3 k2 S2 => ?_) fun bd => hraise fun hh => bd ⟨hh.1.2.2.2.2.2.1, hh.1.2.2.2.2.2.2⟩
  have j2 : ∀ {v} (n : PySem.Str), n ≠ "width" → n ≠ "height" → n ≠ "size" → n ≠ "bitdepth" → n ≠ "valid" → n ≠ "b" → m n = v → m2 n = v := fun n a b c d e f g => (k2 n d e f).trans (j1 n a b c g)
  refine stageCn (s := { s with heap := h2, toks := tk2 }) S2 (j2 _ (by decide) (by decide) (by decide) (by decide) (by decide) (by decide) vpal) (j2 _ (by decide) (by decide) (by decide) (by decide) (by decide) (by decide) va) (j2 _ (by decide) (by decide) (by decide) (by decide) (by decide) (by decide) vg) hg w3 (.head _) hi hq6 fun m3 h3 tk3 c' vs' qs' u1 u2 hsp hi' x1 x2 x3 x4 x5 x6 x7 k3 S3 => ?_
  have j3 : ∀ {v} (n : PySem.Str), (n ≠ "width" → n ≠ "height" → n ≠ "size" → n ≠ "bitdepth" → n ≠ "valid" → n ≠ "b" → n ≠ "palette" → n ≠ "alpha" → n ≠ "colormap" → n ≠ "greyscale" → n ≠ "planes" → n ≠ "color_planes" → m n = v → m3 n = v) := fun n a b c d e f g1 g2 g3 g4 g5 g6 e2 => (k3 n g1 g2 g3 g4 g5 g6 d).trans (j2 n a b c d e f e2)
  have S4 := S3.two (x := x) (sl := sl) (.tail _ (.tail _ hx)) (.tail _ (.tail _ hd)) hxd (S3.at_d (.tail _ (.tail _ hd)))
  have hcm := St.seq_at S3 (.tail _ (.tail _ hd)) (.head _) ⟨_, _, rfl⟩
  have hob : ∀ {v : Value} {cc : Col}, ColIs obj v cc → _ := fun {v cc} hcc => St.col_at S3 (.tail _ (.tail _ hd)) (ColIs.mono (nw' := (c', ({ cls := .type "tuple", data := .seq vs'.toArray } : Obj)) :: (c, ({ cls := .type "tuple", data := .seq vs.toArray } : Obj)) :: obj) (fun p hp => .tail _ (.tail _ hp)) hcc)
  refine stageDn (s := { s with heap := h3, toks := tk3 }) (n0 := n0) S4 (j3 _ (by decide) (by decide) (by decide) (by decide) (by decide) (by decide) (by decide) (by decide) (by decide) (by decide) (by decide) (by decide) v0) x1 x2 x4 (j3 _ (by decide) (by decide) (by decide) (by decide) (by decide) (by decide) (by decide) (by decide) (by decide) (by decide) (by decide) (by decide) vt) x7 hcm hi' (spread_len hsp hql) (spread_mem hsp b2) fun m4 h4 tk4 ut rr obj4 post so4 w4 k4 S5 => ?_
  have j4 : ∀ {v} (n : PySem.Str), n ≠ "bitdepth" → m3 n = v → m4 n = v := fun n a e => (k4 n a).trans e
  refine stage18 (s := { s with heap := h4, toks := tk4 }) (n0 := n0) S5 (j4 _ (by decide) (j3 _ (by decide) (by decide) (by decide) (by decide) (by decide) (by decide) (by decide) (by decide) (by decide) (by decide) (by decide) (by decide) vt)) (j4 _ (by decide) x4) ((hob htc).mono so4) hft (fun c1 m5 h5 tk5 vt5 obj5 q1 so5 w5 k5 S6 => ?_) fun bd => hraise fun hh => bd hh.2.1
  refine stage19 (s := { s with heap := h5, toks := tk5 }) (n0 := n0) S6 ((k5 _ (by decide)).trans (j4 _ (by decide) (j3 _ (by decide) (by decide) (by decide) (by decide) (by decide) (by decide) (by decide) (by decide) (by decide) (by decide) (by decide) (by decide) vb))) ((k5 _ (by decide)).trans (j4 _ (by decide) x4)) (((hob hbc).mono so4).mono so5) hfb (fun c2 m6 h6 tk6 vb6 obj6 q2 so6 w6 k6 S7 => ?_) fun bd => hraise fun hh => bd hh.2.2
  have j6 : ∀ {v} (n : PySem.Str), n ≠ "bitdepth" → n ≠ "transparent" → n ≠ "background" → m3 n = v → m6 n = v := fun n a b c e => (k6 n c).trans ((k5 n b).trans (j4 n a e))
  have j7 : ∀ {v} (n : PySem.Str), (n ≠ "width" → n ≠ "height" → n ≠ "size" → n ≠ "bitdepth" → n ≠ "valid" → n ≠ "b" → n ≠ "palette" → n ≠ "alpha" → n ≠ "colormap" → n ≠ "greyscale" → n ≠ "planes" → n ≠ "color_planes" → n ≠ "transparent" → n ≠ "background" → m n = v → m6 n = v) := fun n a b c d e f g1 g2 g3 g4 g5 g6 g7 g8 e2 => j6 n d g7 g8 (j3 n a b c d e f g1 g2 g3 g4 g5 g6 e2)
  have jw : ∀ {v} (n : PySem.Str), n ≠ "bitdepth" → n ≠ "valid" → n ≠ "b" → n ≠ "palette" → n ≠ "alpha" → n ≠ "colormap" → n ≠ "greyscale" → n ≠ "planes" → n ≠ "color_planes" → n ≠ "transparent" → n ≠ "background" → m1 n = v → m6 n = v := fun n d e f g1 g2 g3 g4 g5 g6 g7 g8 e2 => j6 n d g7 g8 ((k3 n g1 g2 g3 g4 g5 g6 d).trans ((k2 n d e f).trans e2))
  have D : ∀ n m : PySem.Str, decide (n ≠ m) = true → n ≠ m := fun n m h => of_decide_eq_true h
  refine stageF (s := { s with heap := h6, toks := tk6 }) (n0 := n0) S7 (j7 _ (by decide) (by decide) (by decide) (by decide) (by decide) (by decide) (by decide) (by decide) (by decide) (by decide) (by decide) (by decide) (by decide) (by decide) v0)
    (jw _ (by decide) (by decide) (by decide) (by decide) (by decide) (by decide) (by decide) (by decide) (by decide) (by decide) (by decide) w1)
    (jw _ (by decide) (by decide) (by decide) (by decide) (by decide) (by decide) (by decide) (by decide) (by decide) (by decide) (by decide) w2)
    ((k6 _ (by decide)).trans w5) w6 (j6 _ (by decide) (by decide) (by decide) x4) (j6 _ (by decide) (by decide) (by decide) x2) (j6 _ (by decide) (by decide) (by decide) x3) ((k6 _ (by decide)).trans ((k5 _ (by decide)).trans w4))
    (j7 _ (by decide) (by decide) (by decide) (by decide) (by decide) (by decide) (by decide) (by decide) (by decide) (by decide) (by decide) (by decide) (by decide) (by decide) vco)
    (j7 _ (by decide) (by decide) (by decide) (by decide) (by decide) (by decide) (by decide) (by decide) (by decide) (by decide) (by decide) (by decide) (by decide) (by decide) vck)
    (j7 _ (by decide) (by decide) (by decide) (by decide) (by decide) (by decide) (by decide) (by decide) (by decide) (by decide) (by decide) (by decide) (by decide) (by decide) vlc)
    (j6 _ (by decide) (by decide) (by decide) x1)
    (j7 _ (by decide) (by decide) (by decide) (by decide) (by decide) (by decide) (by decide) (by decide) (by decide) (by decide) (by decide) (by decide) (by decide) (by decide) vxp)
    (j7 _ (by decide) (by decide) (by decide) (by decide) (by decide) (by decide) (by decide) (by decide) (by decide) (by decide) (by decide) (by decide) (by decide) (by decide) vyp)
    (j7 _ (by decide) (by decide) (by decide) (by decide) (by decide) (by decide) (by decide) (by decide) (by decide) (by decide) (by decide) (by decide) (by decide) (by decide) vum)
    (j6 _ (by decide) (by decide) (by decide) x6) (j6 _ (by decide) (by decide) (by decide) x5) (fun h => by cases h) fun h7 tk7 uc S8 => ?_
  exact hret ⟨⟨a1, a2, a3, a4, a5, b1, b2⟩, c1, c2⟩ _ rfl m6 h7 tk7 obj6 qs' _ rr vt5 vb6 ux uy ut uc u1 u2 hsp rfl (post.off fun a o ha _ => so6 _ (so5 _ ha)) (q1.mono so6) q2 (fun p hp hpd => so6 _ (so5 _ (so4 _ (List.mem_filter.mpr ⟨.tail _ (.tail _ hp), by simpa using hpd⟩)))) S8
theorem init_l
  {dp un : Nat} {nm : Str} {fa : Addr} {cd : Value} {l : List Env} {h₀ : Heap} {L : Addr} {m : Str → Option Value} {frs obj : Mine.Led} {s : Shared} {Q : Flow → Shared → Prop} {R : Result → Shared → Prop} {x d : Addr} {n0 : Nat} {sl : Array (Option Value)} {X Y lc : Int} {ok : Prop} {gv tv bv dv vk : Value} {go : Option Bool} {al : Bool} {tc bc : Col} {qs : List Int} {ul : Tok} (S : St w p loose mean mg mb dp un l h₀ L frs obj m s.heap) (hx : (x, (⟨.ref 359, some d, .plain, sl⟩ : Obj)) ∈ obj) (hd : (d, dictOf [] n0) ∈ obj) (hxd : x ≠ d) (v0 : m "self" = some (.ref x)) (hz : SizeIn obj m X Y ok) (bx0 : -10000000000 < X) (bx1 : X < 10000000000) (by0 : -10000000000 < Y) (by1 : Y < 10000000000)
  (vg : m "greyscale" = some gv) (hg : GreyIs gv go) (va : m "alpha" = some (.bool al)) (vd : m "bitdepth" = some dv) (hdp : DepIn obj dv qs) (hqn : qs ≠ []) (hq6 : qs.length ≤ 6) (hqb : ∀ n ∈ qs, -10000000000 < n ∧ n < 10000000000) (vt : m "transparent" = some tv) (htc : ColIs obj tv tc) (vb : m "background" = some bv) (hbc : ColIs obj bv bc)
  (vlc : m "interlace" = some (.int lc ul)) (vco : m "compression" = some .none) (vck : m "chunk_limit" = some vk) (vxp : m "x_pixels_per_unit" = some .none) (vyp : m "y_pixels_per_unit" = some .none) (vum : m "unit_is_meter" = some (.bool false)) {lp : Addr} {ps : List Value} {np : Nat} {es : List (List Int)} {q : Int} (vpal : m "palette" = some (.ref lp)) (hlp : (lp, W.listOf ps.toArray np) ∈ obj) (hpa : PalAre obj ps es) (hpl : ps.length ≤ 300) (hel : ∀ e ∈ es, e.length ≤ 8) (hqs : qs = [q]) (hbn : bc = .no) 
  (hret : (ok ∧ 0 < X ∧ 0 < Y ∧ X ≤ 2147483647 ∧ Y ≤ 2147483647 ∧ (al = true → tc = .no) ∧ (∀ q ∈ qs, 1 ≤ q ∧ q ≤ 16)) ∧ PalGood es ∧ (q = 1 ∨ q = 2 ∨ q = 4 ∨ q = 8) ∧ tc = .no ∧ al = false ∧ go.getD false = false → ∀ m' h' tk' obj' l2 k tg rr vt vb ux uy ut uc u1 u2, (l2, W.listOf ps.toArray k) ∈ obj' → tg = q → CbrPost [q] tg rr obj' → ColIs obj' vt (colOut tc) → ColIs obj' vb (colOut bc) → (∀ p ∈ obj, p.1 ≠ d → p ∈ obj') → St2 w p loose mean mg mb dp un l h₀ L frs x d sl [("rescale", rr), ("width", Value.int X ux), ("height", Value.int Y uy), ("transparent", vt), ("background", vb), ("greyscale", Value.bool false), ("alpha", Value.bool al), ("colormap", Value.bool true), ("bitdepth", Value.int tg ut), ("compression", .none), ("chunk_limit", vk), ("interlace", Value.bool (lc != 0)), ("palette", (.ref l2)), ("x_pixels_per_unit", .none), ("y_pixels_per_unit", .none), ("unit_is_meter", Value.bool false), ("color_type", Value.int (if true then 3 else (if false then 0 else 2) + (if al then 4 else 0)) uc), ("color_planes", (Value.int 1 u2)), ("planes", (Value.int 1 u1))] obj' m' h' → Q .next { s with heap := h', toks := tk' })
  (hraise : ¬ ((ok ∧ 0 < X ∧ 0 < Y ∧ X ≤ 2147483647 ∧ Y ≤ 2147483647 ∧ (al = true → tc = .no) ∧ (∀ q ∈ qs, 1 ≤ q ∧ q ≤ 16)) ∧ PalGood es ∧ (q = 1 ∨ q = 2 ∨ q = 4 ∨ q = 8) ∧ tc = .no ∧ al = false ∧ go.getD false = false) → Fails h₀ l frs R s) : wpAny (model rw_ar0036_02.row.prog w) ((Mine.Fa dp un (some []) l).deeper (envOf nm Mine.initScope L fa cd)) (execs ([initAt 0, initAt 1, initAt 2, initAt 3, initAt 4, initAt 5, initAt 6, initAt 7, initAt 8, initAt 9, initAt 10, initAt 11, initAt 12, initAt 13, initAt 14, initAt 15, initAt 16, initAt 17, initAt 18, initAt 19, initAt 20, initAt 21, initAt 22, initAt 23, initAt 24, initAt 25, initAt 26, initAt 27, initAt 28, initAt 29, initAt 30, initAt 31, initAt 32, initAt 33, initAt 34, initAt 35, initAt 36, initAt 37, initAt 38]) (envOf nm Mine.initScope L fa cd)) Q (Mine.Out w ((Mine.Fa dp un (some []) l).deeper (envOf nm Mine.initScope L fa cd)) (envOf nm Mine.initScope L fa cd) R) s := by
  refine stageA S hz bx0 bx1 by0 by1 (fun a1 a2 a3 a4 a5 m1 h1 tk1 ux uy w1 w2 k1 S1 => ?_) fun bd => hraise fun hh => bd ⟨hh.1.1, hh.1.2.1, hh.1.2.2.1, hh.1.2.2.2.1, hh.1.2.2.2.2.1⟩
  have j1 : ∀ {v} (n : PySem.Str), n ≠ "width" → n ≠ "height" → n ≠ "size" → m n = v → m1 n = v := fun n a b c e => (k1 n a b c).trans e
  refine stageB (s := { s with heap := h1, toks := tk1 }) S1 (j1 _ (by decide) (by decide) (by decide) va) (j1 _ (by decide) (by decide) (by decide) vt) (j1 _ (by decide) (by decide) (by decide) vd) htc hdp hqn hq6 hqb (fun b1 b2 m2 h2 tk2 c vs hi w3 k2 S2 => ?_) fun bd => hraise fun hh => bd ⟨hh.1.2.2.2.2.2.1, hh.1.2.2.2.2.2.2⟩
  have j2 : ∀ {v} (n : PySem.Str), n ≠ "width" → n ≠ "height" → n ≠ "size" → n ≠ "bitdepth" → n ≠ "valid" → n ≠ "b" → m n = v → m2 n = v := fun n a b c d e f g => (k2 n d e f).trans (j1 n a b c g)
  have hobk : ∀ p ∈ obj, p ∈ (c, ({ cls := .type "tuple", data := .seq vs.toArray } : Obj)) :: obj := fun p hp => .tail _ hp
  refine stageCl (s := { s with heap := h2, toks := tk2 }) S2 (j2 _ (by decide) (by decide) (by decide) (by decide) (by decide) (by decide) vpal) (hobk _ hlp) (hpa.mono hobk) hpl hel (j2 _ (by decide) (by decide) (by decide) (by decide) (by decide) (by decide) va) (j2 _ (by decide) (by decide) (by decide) (by decide) (by decide) (by decide) vg) hg w3 (.head _) hi hq6 (fun pg m3 h3 tk3 c' vs' qs' l2 k u1 u2 hsp hi' x1 x2 x3 x4 x5 x6 x7 k3 S3 => ?_) fun bd => hraise fun hh => bd hh.2.1
  have j3 : ∀ {v} (n : PySem.Str), (n ≠ "width" → n ≠ "height" → n ≠ "size" → n ≠ "bitdepth" → n ≠ "valid" → n ≠ "b" → n ≠ "palette" → n ≠ "alpha" → n ≠ "colormap" → n ≠ "greyscale" → n ≠ "planes" → n ≠ "color_planes" → m n = v → m3 n = v) := fun n a b c d e f g1 g2 g3 g4 g5 g6 e2 => (k3 n g1 g2 g3 g4 g5 g6 d).trans (j2 n a b c d e f e2)
  have S4 := S3.two (x := x) (sl := sl) (.tail _ (.tail _ (.tail _ hx))) (.tail _ (.tail _ (.tail _ hd))) hxd (S3.at_d (.tail _ (.tail _ (.tail _ hd))))
  have hcm := St.seq_at S3 (.tail _ (.tail _ (.tail _ hd))) (.head _) ⟨_, _, rfl⟩
  have hob : ∀ {v : Value} {cc : Col}, ColIs obj v cc → _ := fun {v cc} hcc => St.col_at S3 (.tail _ (.tail _ (.tail _ hd))) (ColIs.mono (nw' := (c', ({ cls := .type "tuple", data := .seq vs'.toArray } : Obj)) :: (l2, W.listOf ps.toArray k) :: (c, ({ cls := .type "tuple", data := .seq vs.toArray } : Obj)) :: obj) (fun p hp => .tail _ (.tail _ (.tail _ hp))) hcc)
  have hl2 := St.seq_at S3 (.tail _ (.tail _ (.tail _ hd))) (.tail _ (.head _)) ⟨_, _, rfl⟩
  have hpne : ps ≠ [] := fun e => by
    have h8 := pg.1
    have h9 := hpa.len
    rw [e] at h9
    simp at h9
    rw [← h9] at h8
    simp at h8
  subst hqs
  have hq1 : qs' = [q] := hsp.1 rfl
  subst hq1
  subst hbn
  refine stageDl (s := { s with heap := h3, toks := tk3 }) (n0 := n0) S4 (j3 _ (by decide) (by decide) (by decide) (by decide) (by decide) (by decide) (by decide) (by decide) (by decide) (by decide) (by decide) (by decide) v0) x1 hl2 hpne hpl x2 x4 (j3 _ (by decide) (by decide) (by decide) (by decide) (by decide) (by decide) (by decide) (by decide) (by decide) (by decide) (by decide) (by decide) vt) (hob htc) x7 hcm hi' (fun d1 d2 d3 d4 m4 h4 tk4 ut rr obj4 post so4 w4 k4 S5 => ?_) fun bd => hraise fun hh => bd hh.2.2
  subst d2
  have j4 : ∀ {v} (n : PySem.Str), n ≠ "bitdepth" → m3 n = v → m4 n = v := fun n a e => (k4 n a).trans e
  refine stage18 (s := { s with heap := h4, toks := tk4 }) (n0 := n0) S5 (j4 _ (by decide) (j3 _ (by decide) (by decide) (by decide) (by decide) (by decide) (by decide) (by decide) (by decide) (by decide) (by decide) (by decide) (by decide) vt)) (j4 _ (by decide) x4) ((hob htc).mono so4) trivial (fun c1 m5 h5 tk5 vt5 obj5 q1 so5 w5 k5 S6 => ?_) fun bd => (bd trivial).elim
  refine stage19 (s := { s with heap := h5, toks := tk5 }) (n0 := n0) S6 ((k5 _ (by decide)).trans (j4 _ (by decide) (j3 _ (by decide) (by decide) (by decide) (by decide) (by decide) (by decide) (by decide) (by decide) (by decide) (by decide) (by decide) (by decide) vb))) ((k5 _ (by decide)).trans (j4 _ (by decide) x4)) (((hob hbc).mono so4).mono so5) trivial (fun c2 m6 h6 tk6 vb6 obj6 q2 so6 w6 k6 S7 => ?_) fun bd => (bd trivial).elim
  have j6 : ∀ {v} (n : PySem.Str), n ≠ "bitdepth" → n ≠ "transparent" → n ≠ "background" → m3 n = v → m6 n = v := fun n a b c e => (k6 n c).trans ((k5 n b).trans (j4 n a e))
  have j7 : ∀ {v} (n : PySem.Str), (n ≠ "width" → n ≠ "height" → n ≠ "size" → n ≠ "bitdepth" → n ≠ "valid" → n ≠ "b" → n ≠ "palette" → n ≠ "alpha" → n ≠ "colormap" → n ≠ "greyscale" → n ≠ "planes" → n ≠ "color_planes" → n ≠ "transparent" → n ≠ "background" → m n = v → m6 n = v) := fun n a b c d e f g1 g2 g3 g4 g5 g6 g7 g8 e2 => j6 n d g7 g8 (j3 n a b c d e f g1 g2 g3 g4 g5 g6 e2)
  have jw : ∀ {v} (n : PySem.Str), n ≠ "bitdepth" → n ≠ "valid" → n ≠ "b" → n ≠ "palette" → n ≠ "alpha" → n ≠ "colormap" → n ≠ "greyscale" → n ≠ "planes" → n ≠ "color_planes" → n ≠ "transparent" → n ≠ "background" → m1 n = v → m6 n = v := fun n d e f g1 g2 g3 g4 g5 g6 g7 g8 e2 => j6 n d g7 g8 ((k3 n g1 g2 g3 g4 g5 g6 d).trans ((k2 n d e f).trans e2))
  have D : ∀ n m : PySem.Str, decide (n ≠ m) = true → n ≠ m := fun n m h => of_decide_eq_true h
  refine stageF (s := { s with heap := h6, toks := tk6 }) (n0 := n0) S7 (j7 _ (by decide) (by decide) (by decide) (by decide) (by decide) (by decide) (by decide) (by decide) (by decide) (by decide) (by decide) (by decide) (by decide) (by decide) v0)
    (jw _ (by decide) (by decide) (by decide) (by decide) (by decide) (by decide) (by decide) (by decide) (by decide) (by decide) (by decide) w1)
    (jw _ (by decide) (by decide) (by decide) (by decide) (by decide) (by decide) (by decide) (by decide) (by decide) (by decide) (by decide) w2)
    ((k6 _ (by decide)).trans w5) w6 (j6 _ (by decide) (by decide) (by decide) x4) (j6 _ (by decide) (by decide) (by decide) x2) (j6 _ (by decide) (by decide) (by decide) x3) ((k6 _ (by decide)).trans ((k5 _ (by decide)).trans w4))
    (j7 _ (by decide) (by decide) (by decide) (by decide) (by decide) (by decide) (by decide) (by decide) (by decide) (by decide) (by decide) (by decide) (by decide) (by decide) vco)
    (j7 _ (by decide) (by decide) (by decide) (by decide) (by decide) (by decide) (by decide) (by decide) (by decide) (by decide) (by decide) (by decide) (by decide) (by decide) vck)
    (j7 _ (by decide) (by decide) (by decide) (by decide) (by decide) (by decide) (by decide) (by decide) (by decide) (by decide) (by decide) (by decide) (by decide) (by decide) vlc)
    (j6 _ (by decide) (by decide) (by decide) x1)
    (j7 _ (by decide) (by decide) (by decide) (by decide) (by decide) (by decide) (by decide) (by decide) (by decide) (by decide) (by decide) (by decide) (by decide) (by decide) vxp)
    (j7 _ (by decide) (by decide) (by decide) (by decide) (by decide) (by decide) (by decide) (by decide) (by decide) (by decide) (by decide) (by decide) (by decide) (by decide) vyp)
    (j7 _ (by decide) (by decide) (by decide) (by decide) (by decide) (by decide) (by decide) (by decide) (by decide) (by decide) (by decide) (by decide) (by decide) (by decide) vum)
    (j6 _ (by decide) (by decide) (by decide) x6) (j6 _ (by decide) (by decide) (by decide) x5) (fun _ => ⟨d3, d4⟩) fun h7 tk7 uc S8 => ?_
  rw [d4] at S8
  exact hret ⟨⟨a1, a2, a3, a4, a5, b1, b2⟩, pg, d1, rfl, d3, d4⟩ m6 h7 tk7 obj6 l2 k _ rr vt5 vb6 ux uy ut uc u1 u2 (so6 _ (so5 _ (so4 _ hl2))) rfl (post.off fun a o ha _ => so6 _ (so5 _ ha)) (q1.mono so6) q2 (fun p hp hpd => so6 _ (so5 _ (so4 _ (List.mem_filter.mpr ⟨.tail _ (.tail _ (.tail _ hp)), by simpa using hpd⟩)))) S8
end Mine
end
section
namespace Mine
theorem pal_rep {nw : Led} {a : Addr} {its : List Value} {e : List Int} (h : (a, ({ cls := .type "tuple", data := .seq its.toArray } : Obj)) ∈ nw) (hi : IntsAre its e) : ∀ n, PalAre nw (List.replicate n (.ref a)) (List.replicate n e)
  | 0 => .nil
  | n + 1 => .cons h hi (pal_rep h hi n)
end Mine
namespace Mine
theorem PalAre.app {nw : Led} : ∀ {vs us : List Value} {es fs : List (List Int)}, PalAre nw vs es → PalAre nw us fs → PalAre nw (vs ++ us) (es ++ fs)
  | _, _, _, _, .nil, k => k
  | _, _, _, _, .cons a b r, k => .cons a b (r.app k)
def ents (number : Int) (k : Nat) : List (List Int) := (List.range k).map fun (i : Nat) => [(i : Int), number.fmod 256, 255 - (i : Int)]
theorem ents_succ (number : Int) (k : Nat) : ents number (k + 1) = ents number k ++ [[(k : Int), number.fmod 256, 255 - (k : Int)]] := by
  unfold ents
  rw [List.range_succ, List.map_append, List.map_cons, List.map_nil]
end Mine
namespace Mine
section
variable {prog : Program} {w : World} {A : Around} {E : Value → Shared → Prop} {s : Shared} {h₀ : Heap} {L : Addr} {m : Str → Option Value} {news : Led}
theorem add_lst {l b : Addr} {vs us : List Value} {n k : Nat} {Q : Value → Shared → Prop} (F : Fr h₀ L s.heap m) (N : News h₀ L s.heap news) (hl : (l, W.listOf vs.toArray n) ∈ news) (hb : (b, W.listOf us.toArray k) ∈ news) (hz : vs.length ≤ 1000) (hu : us.length ≤ 1000)
    (h : ∀ D h', Fr h₀ L h' m → News h₀ L h' ((D, W.listOf (vs ++ us).toArray 0) :: news) → (∀ p ∈ news, p.1 < D) → Q (.ref D) { s with heap := h' }) : wpAny (model prog w) A (binaryOp .Add (.ref l) (.ref b)) Q E s := by
  refine add_arrays F N (its := vs.toArray) (its2 := us.toArray) ⟨_, (N _ hl).1, rfl, _, rfl⟩ ⟨_, (N _ hb).1, rfl, _, rfl⟩ (fun h' F' N' => h _ h' F' N' fun p hp => Heap.lt_size (N p hp).1) ?_
  rw [List.size_toArray, List.size_toArray, sizeLine_eq]; omega
theorem sl_take {vs : List Value} {c : Int} (h0 : 0 ≤ c) : (slicePick vs.toArray none (some c) none).toList = vs.take c.toNat := by
  have ey : c = (c.toNat : Int) := by omega
  rw [ey, slicePick_upto' vs.toArray c.toNat]
  simp [← ey]
theorem sl_drop {vs : List Value} {c : Int} (h0 : 0 ≤ c) : (slicePick vs.toArray (some c) none none).toList = vs.drop c.toNat := by
  have ey : c = (c.toNat : Int) := by omega
  rw [ey, slicePick_from' vs.toArray c.toNat]
  simp [← ey]
theorem PalAre.take {nw : Led} : ∀ {vs : List Value} {es : List (List Int)}, PalAre nw vs es → ∀ k, PalAre nw (vs.take k) (es.take k)
  | _, _, _, 0 => .nil
  | _, _, .nil, _ + 1 => .nil
  | _, _, .cons a b r, k + 1 => .cons a b (r.take k)
theorem PalAre.drop {nw : Led} : ∀ {vs : List Value} {es : List (List Int)}, PalAre nw vs es → ∀ k, PalAre nw (vs.drop k) (es.drop k)
  | _, _, h, 0 => h
  | _, _, .nil, _ + 1 => .nil
  | _, _, .cons _ _ r, k + 1 => r.drop k
end
end Mine
namespace Mine
def PalList (nw : Led) (l2 : Addr) (es : List (List Int)) : Prop := ∃ ps k, (l2, W.listOf ps.toArray k) ∈ nw ∧ PalAre nw ps es
theorem PalList.mono {nw nw' : Led} (h : ∀ p ∈ nw, p ∈ nw') {l2 : Addr} {es : List (List Int)} : PalList nw l2 es → PalList nw' l2 es
  | ⟨_, _, a, b⟩ => ⟨_, _, h _ a, b.mono h⟩
end Mine
namespace Mine
section
variable {prog : Program} {w : World} {A : Around} {E : Value → Shared → Prop} {s : Shared} {h₀ : Heap} {L : Addr} {m : Str → Option Value} {news : Led}
theorem add_tup {t b : Addr} {vs us : List Value} {Q : Value → Shared → Prop} (F : Fr h₀ L s.heap m) (N : News h₀ L s.heap news) (ht : (t, ({ cls := .type "tuple", data := .seq vs.toArray } : Obj)) ∈ news) (hb : (b, ({ cls := .type "tuple", data := .seq us.toArray } : Obj)) ∈ news) (hv : vs ≠ []) (hu : us ≠ []) (hz : vs.length ≤ 1000) (hz2 : us.length ≤ 1000)
    (h : ∀ D h', Fr h₀ L h' m → News h₀ L h' ((D, ({ cls := .type "tuple", data := .seq (vs ++ us).toArray } : Obj)) :: news) → (∀ p ∈ news, p.1 < D) → Q (.ref D) { s with heap := h' }) : wpAny (model prog w) A (binaryOp .Add (.ref t) (.ref b)) Q E s :=
  add_tuples F N (N.isTup ht) (N.isTup hb) (fun e => absurd e hv) (fun _ e => absurd e hu) (fun _ _ h' F' N' => h _ h' F' N' fun p hp => Heap.lt_size (N p hp).1) (by rw [sizeLine_eq]; omega)
theorem News.lst {l : Addr} {vs : List Value} {n : Nat} {h : Heap} (N : News h₀ L h news) (hm : (l, W.listOf vs.toArray n) ∈ news) : h.IsList l vs.toArray := ⟨_, (N _ hm).1, rfl, _, rfl⟩
theorem take_snoc {α : Type} {l : List α} {i : Nat} {e : α} (h : l.drop i = e :: l.drop (i + 1)) : l.take (i + 1) = l.take i ++ [e] := by
  have hi : i < l.length := by
    have := congrArg List.length h
    simp at this
    omega
  rw [List.take_succ, List.getElem?_eq_getElem hi]
  have : l[i] = e := by
    have := List.drop_eq_getElem_cons hi
    rw [h] at this
    exact (List.cons.inj this).1.symm
  rw [this]; rfl
end
end Mine
namespace Mine
theorem news_skip2 {h₀ h : Heap} {L : Addr} {a b : Addr × Obj} {r : Led} (N : News h₀ L h (a :: b :: r)) : News h₀ L h (a :: r) := fun p hp => N p (by
  rcases List.mem_cons.mp hp with rfl | hp
  · exact .head _
  · exact .tail _ (.tail _ hp))
end Mine
end
section
namespace Mine
open LCg LCt
theorem comp_indT {prog : Program} {w : World} {A : Around} {s : Shared} {h₀ : Heap} {L : Addr} {m : Str → Option Value} {env : Env} {ct elt : Expr} {x : Str} {scope : Scope} {cl : List (Str × Addr)} {S : Led → Prop} {P : Nat → Value → Prop} {Fin : List Value → Led → Prop} {n : Nat} {news : Led} (Inv : Nat → List Value → Led → Prop)
    (step : ∀ i ys nw v I oI C oC D m₂ h tk (E' : Value → Shared → Prop) (rest1 rest0 : Value → Led → Prop), i < n → Inv i ys nw → P i v → NsObj oC m₂ → m₂ x = some v → Fr h₀ L h m → News h₀ L h ((I, oI) :: (C, oC) :: (D, lst ys) :: nw) → Off3 I C D nw → ((@Ne Nat I C) ∧ (@Ne Nat I D) ∧ (@Ne Nat C D)) → (∀ y nw', Inv (i + 1) (ys ++ [y]) nw' → rest1 y nw') → (∀ y nw', Inv (i + 1) ys nw' → rest0 y nw') →
      wpAny (model prog w) A (isTrue ct (compEnvC scope cl C env) (eval ct (compEnvC scope cl C env))) (fun ok s' => if ok = true then
        wpAny (model prog w) A (eval elt (compEnvC scope cl C env)) (CompEnd h₀ L m { s with heap := h, toks := tk } I oI C oC D (lst ys) S rest1) E' s'
        else CompEnd h₀ L m { s with heap := h, toks := tk } I oI C oC D (lst ys) S rest0 Value.none s') E' { s with heap := h, toks := tk })
    (fin : ∀ ys nw, Inv n ys nw → Fin ys nw) (h0 : Inv 0 [] news) : CompRestT prog w A h₀ L m env ct elt x scope cl s S P Fin n 0 [] news := by
  have go : ∀ k i ys nw, i + k = n → Inv i ys nw → CompRestT prog w A h₀ L m env ct elt x scope cl s S P Fin k i ys nw := by
    intro k
    induction k with
    | zero => intro i ys nw e inv; exact fin ys nw ((show i = n from e) ▸ inv)
    | succ k ih =>
      intro i ys nw e inv v I oI C oC D m₂ h tk E' hP hC hx F N off ne
      exact step i ys nw v I oI C oC D m₂ h tk E' _ _ (by omega) inv hP hC hx F N off ne (fun y nw' inv' => ih (i + 1) _ _ (by omega) inv') fun y nw' inv' => ih (i + 1) _ _ (by omega) inv'
  exact go n 0 [] news (Nat.zero_add n) h0
theorem compEnd0 {h₀ : Heap} {L I C D : Addr} {m : Str → Option Value} {s₁ : Shared} {oI oC oD : Obj} {S : Led → Prop} {rest : Value → Led → Prop} {y : Value} {h' : Heap} {tk : Nat} {news : Led}
    (F : Fr h₀ L h' m) (N : News h₀ L h' ((I, oI) :: (C, oC) :: (D, oD) :: news)) (off : Off3 I C D news) (hS : S news) (r : rest y news) :
    CompEnd h₀ L m s₁ I oI C oC D oD S rest y { s₁ with heap := h', toks := tk } := ⟨h', tk, news, rfl, F, N, off, hS, r⟩
theorem ints_at {vs : List Value} {ns : List Int} (h : IntsAre vs ns) {i : Nat} {v : Value} (hv : vs[i]? = some v) : ∃ n t, v = .int n t ∧ ns.drop i = n :: ns.drop (i + 1) ∧ n ∈ ns := by
  induction h generalizing i with
  | nil => simp at hv
  | cons n t r ih =>
    cases i with
    | zero => simp at hv; exact ⟨n, t, hv.symm, rfl, .head _⟩
    | succ i =>
      simp only [List.getElem?_cons_succ] at hv
      obtain ⟨k, u, e, hd, hm⟩ := ih hv
      exact ⟨k, u, e, hd, .tail _ hm⟩
theorem ints_dat {nw : Led} : ∀ {vs : List Value} {ns : List Int}, IntsAre vs ns → DatAll nw vs (ns.map Dat.int)
  | _, _, .nil => .nil
  | _, _, .cons n t r => .cons (.int n t) (ints_dat r)
theorem pal_dat {nw : Led} : ∀ {vs : List Value} {es : List (List Int)}, PalAre nw vs es → DatAll nw vs (es.map fun e => Dat.tuple (e.map Dat.int))
  | _, _, .nil => .nil
  | _, _, .cons a b r => .cons (.tuple a (ints_dat b)) (pal_dat r)
theorem ok_ints (ns : List Int) : ∀ d ∈ ns.map Dat.int, kqdOk 8 d = true := fun d hd => by
  obtain ⟨x, _, rfl⟩ := List.mem_map.mp hd
  rfl
theorem ok_pal (es : List (List Int)) : ∀ d ∈ es.map (fun e => Dat.tuple (e.map Dat.int)), kqdOk 8 d = true := fun d hd => by
  obtain ⟨x, _, rfl⟩ := List.mem_map.mp hd
  simp [kqdOk]
section
variable {prog : Program} {w : World} {A : Around} {E : Value → Shared → Prop} {s : Shared} {h₀ : Heap} {L a b : Addr} {news : Led} {xs ys : List Value} {ka kb : Nat} {ds es : List Dat} {Q : Value → Shared → Prop}
theorem ne_same (N : News h₀ L s.heap news) (ma : (a, W.listOf xs.toArray ka) ∈ news) (Da : DatAll news xs ds) (mb : (b, W.listOf ys.toArray kb) ∈ news) (Db : DatAll news ys ds) (ha : ∀ d ∈ ds, kqdOk 8 d = true) (hu : A.units + 64 < cLine) (h : Q (.bool false) s) :
    wpAny (model prog w) A (compareOp .NotEq (.ref a) (.ref b)) Q E s := by
  refine kqd_ne N ma rfl rfl Da (fun _ h => h) mb rfl rfl Db (fun _ h => h) ha ha hu ?_
  have e : ∀ (i : Decidable (ds = ds)), (!@decide (ds = ds) i) = false := fun i => by simp
  rw [e]; exact h
theorem eq_nil {ns : List Int} (N : News h₀ L s.heap news) (ma : (a, W.listOf xs.toArray ka) ∈ news) (hi : IntsAre xs ns) (mb : (b, W.listOf ([] : List Value).toArray kb) ∈ news) (hu : A.units + 64 < cLine) (h : Q (.bool (decide (ns = []))) s) :
    wpAny (model prog w) A (compareOp .Eq (.ref a) (.ref b)) Q E s := by
  refine kqd_eq N ma rfl rfl (ints_dat (nw := news) hi) (fun _ h => h) mb rfl rfl (DatAll.nil (news := news)) (fun _ h => h) (ok_ints ns) (fun _ h => nomatch h) hu ?_
  have e : ∀ (i : Decidable (ns.map Dat.int = [])), @decide (ns.map Dat.int = []) i = decide (ns = []) := fun i => by cases ns <;> simp
  rw [e]; exact h
end
end Mine
namespace Mine
open LCg LCt
theorem arr_at {vs : List Value} {ns : List Int} (h : IntsAre vs ns) : ∀ (i : Nat) (v : Value), vs.toArray[i]? = some v → ∃ n t, v = .int n t ∧ ns.drop i = n :: ns.drop (i + 1) ∧ n ∈ ns := fun i v hv => ints_at h (by simpa using hv)
theorem ints_snoc : ∀ {vs : List Value} {ns : List Int} {x : Int} {t : Tok}, IntsAre vs ns → IntsAre (vs ++ [.int x t]) (ns ++ [x])
  | _, _, x, t, .nil => .cons x t .nil
  | _, _, _, _, .cons a b r => .cons a b (ints_snoc r)
theorem filt {prog : Program} {w : World} {A : Around} {s : Shared} {h₀ : Heap} {L : Addr} {m : Str → Option Value} {env : Env} {ct elt : Expr} {x : Str} {scope : Scope} {cl : List (Str × Addr)} {S : Led → Prop} {P : Nat → Value → Prop} {Fin : List Value → Led → Prop} {n : Nat} {news : Led} {ns : List Int} (p : Int → Bool)
    (hn : n = ns.length) (hP : ∀ i v, P i v → ∃ k t, v = .int k t ∧ ns.drop i = k :: ns.drop (i + 1) ∧ k ∈ ns) (hS : S news)
    (test : ∀ k t I oI C oC D ys m₂ h tk (E' : Value → Shared → Prop) (Q' : Bool → Shared → Prop), k ∈ ns → NsObj oC m₂ → m₂ x = some (.int k t) → Fr h₀ L h m → News h₀ L h ((I, oI) :: (C, oC) :: (D, lst ys) :: news) →
      (∀ h' tk', Fr h₀ L h' m → News h₀ L h' ((I, oI) :: (C, oC) :: (D, lst ys) :: news) → Q' (p k) { s with heap := h', toks := tk' }) → wpAny (model prog w) A (isTrue ct (compEnvC scope cl C env) (eval ct (compEnvC scope cl C env))) Q' E' { s with heap := h, toks := tk })
    (item : ∀ v I oI C oC D ys m₂ h tk (E' Q' : Value → Shared → Prop), NsObj oC m₂ → m₂ x = some v → Fr h₀ L h m → News h₀ L h ((I, oI) :: (C, oC) :: (D, lst ys) :: news) → Q' v { s with heap := h, toks := tk } → wpAny (model prog w) A (eval elt (compEnvC scope cl C env)) Q' E' { s with heap := h, toks := tk })
    (fin : ∀ ys, IntsAre ys (ns.filter p) → Fin ys news) : CompRestT prog w A h₀ L m env ct elt x scope cl s S P Fin n 0 [] news := by
  refine comp_indT (fun i ys nw => nw = news ∧ IntsAre ys ((ns.take i).filter p)) (fun i ys nw v I oI C oC D m₂ h tk E' rest1 rest0 hi inv hPv hC hx F N off ne hr1 hr0 => ?_) (fun ys nw inv => ?_) ⟨rfl, .nil⟩
  · obtain ⟨rfl, hi9⟩ := inv
    obtain ⟨k, t, rfl, hd, hm⟩ := hP i v hPv
    have ht := take_snoc hd
    refine test k t I oI C oC D ys m₂ h tk _ _ hm hC hx F N fun h' tk' F' N' => ?_
    cases hp : p k with
    | true =>
      rw [if_pos rfl]
      refine item _ I oI C oC D ys m₂ h' tk' _ _ hC hx F' N' ?_
      refine compEnd0 (s₁ := { s with heap := h, toks := tk }) F' N' off hS (hr1 _ _ ⟨rfl, ?_⟩)
      rw [ht, List.filter_append]
      have : [k].filter p = [k] := by simp [hp]
      rw [this]
      exact ints_snoc hi9
    | false =>
      rw [if_neg Bool.false_ne_true]
      refine compEnd0 (s₁ := { s with heap := h, toks := tk }) F' N' off hS (hr0 _ _ ⟨rfl, ?_⟩)
      rw [ht, List.filter_append]
      have : [k].filter p = [] := by simp [hp]
      rw [this, List.append_nil]
      exact hi9
  · obtain ⟨rfl, hi9⟩ := inv
    rw [hn, List.take_length] at hi9
    exact fin ys hi9
end Mine
namespace Mine
theorem f5_pos {q : Int} (h : q ≤ 16) : 0 < ([1, 2, 4, 8, 16].filter fun v => decide (q ≤ v)).length := by
  have : (16 : Int) ∈ [1, 2, 4, 8, 16].filter fun v => decide (q ≤ v) := List.mem_filter.mpr ⟨by simp, by simpa using h⟩
  exact List.length_pos_of_mem this
end Mine
namespace Mine
theorem filt_nil {qs : List Int} {f : Int} (h : qs.filter (fun v => v != f) = []) : ∀ q ∈ qs, q = f := fun q hq => by
  have := List.filter_eq_nil_iff.mp h q hq
  simpa using this
theorem filt_cons {qs : List Int} {f : Int} (h : ¬ qs.filter (fun v => v != f) = []) : ∃ q ∈ qs, q ≠ f := by
  obtain ⟨q, hq⟩ := List.exists_mem_of_ne_nil _ h
  rw [List.mem_filter] at hq
  exact ⟨q, hq.1, by simpa using hq.2⟩
end Mine
namespace Mine
section
variable {prog : Program} {w : World} {A : Around} {E : Value → Shared → Prop} {s : Shared} {h₀ : Heap} {L : Addr} {news : Led} {a b : Value} {d : Dat} {Q : Value → Shared → Prop}
theorem eqv_self {d : Dat} (hk : kqdOk 8 d = true) : PyData.eqv (kqdP d) (kqdP d) = true := (kqd_eqv 8 d d 8 hk hk).mpr rfl
theorem shaped_of {d : Dat} (hk : kqdOk 8 d = true) : SeqAt.shaped (kqdP d) = true := by
  have la := kqd_lay 8 d hk
  unfold SeqAt.shaped; rw [la.1, Bool.true_and]; exact decide_eq_true (Nat.le_trans la.2 (by decide))
theorem eq_dat (N : News h₀ L s.heap news) (ha : DatIn news a d) (hb : DatIn news b d) (hk : kqdOk 8 d = true) (hu : A.units + 64 < cLine) (h : Q (.bool true) s) : wpAny (model prog w) A (compareOp .Eq a b) Q E s := by
  obtain ⟨as, ra⟩ := kqd_in N 8 ha hk
  obtain ⟨bs, rb⟩ := kqd_in N 8 hb hk
  exact eq_dataH ra rb (shaped_of hk) (shaped_of hk) hu (by rw [eqv_self hk]; exact h)
theorem ne_dat (N : News h₀ L s.heap news) (ha : DatIn news a d) (hb : DatIn news b d) (hk : kqdOk 8 d = true) (hu : A.units + 64 < cLine) (h : Q (.bool false) s) : wpAny (model prog w) A (compareOp .NotEq a b) Q E s := by
  obtain ⟨as, ra⟩ := kqd_in N 8 ha hk
  obtain ⟨bs, rb⟩ := kqd_in N 8 hb hk
  exact ne_dataH ra rb (shaped_of hk) (shaped_of hk) hu (by rw [eqv_self hk]; exact h)
end
def colDat : Col → Dat
  | .no => .none
  | .num n => .int n
  | .tup qs => .tuple (qs.map Dat.int)
theorem ColIs.dat {nw : Led} {v : Value} {c : Col} : ColIs nw v c → DatIn nw v (colDat c)
  | .no => .none
  | .num n t => .int n t
  | .tup a b => .tuple a (ints_dat b)
theorem col_ok : ∀ c : Col, kqdOk 8 (colDat c) = true
  | .no => rfl
  | .num _ => rfl
  | .tup qs => by simp [colDat, kqdOk]
theorem ColIs.handed {nw : Led} {v : Value} {c : Col} : ColIs nw v c → handedIn v = true
  | .no => by simp [handedIn]
  | .num n t => by simp [handedIn]
  | .tup a b => by simp [handedIn]
end Mine
namespace Mine
theorem dat_key {nw : Led} {v : Value} {c : Col} (h : ColIs nw v c) (hn : ¬ ∃ n, c = .num n) : DatIn nw v (colDat (colOut c)) := by
  have : colOut c = c := by
    cases c with
    | num n => exact absurd ⟨n, rfl⟩ hn
    | no => rfl
    | tup => rfl
  rw [this]; exact h.dat
theorem dat_num {nw : Led} {v : Value} {c : Col} {a : Addr} (h : ColIs nw v c) (hn : ∃ n, c = .num n) (hm : (a, ({ cls := .type "tuple", data := .seq [v].toArray } : Obj)) ∈ nw) : DatIn nw (.ref a) (colDat (colOut c)) := by
  obtain ⟨n, rfl⟩ := hn
  cases h with
  | num n t => exact .tuple hm (.cons (.int n t) .nil)
end Mine
end
section
variable {w : World} {p : Program} {loose : List Str} {mean : ExcName → Option Value} {mg mb : Str → Option Value}
theorem Mine.und (dp un : Nat) (l : List Env) (env : Env) (C : Addr) (pos : List Value) (kw : List (Str × Value)) : (((Mine.Fa dp un (some []) l).deeper env).under (.builtin "type.__call__" ⟨.ref C :: pos, kw⟩)) = (Mine.Fa (dp + 1) (un + 1) (some []) l).deeper env := rfl
theorem Mine.initStmts_eq : Mine.initStmts = [Mine.initAt 0, Mine.initAt 1, Mine.initAt 2, Mine.initAt 3, Mine.initAt 4, Mine.initAt 5, Mine.initAt 6, Mine.initAt 7, Mine.initAt 8, Mine.initAt 9, Mine.initAt 10, Mine.initAt 11, Mine.initAt 12, Mine.initAt 13, Mine.initAt 14, Mine.initAt 15, Mine.initAt 16, Mine.initAt 17, Mine.initAt 18, Mine.initAt 19, Mine.initAt 20, Mine.initAt 21, Mine.initAt 22, Mine.initAt 23, Mine.initAt 24, Mine.initAt 25, Mine.initAt 26, Mine.initAt 27, Mine.initAt 28, Mine.initAt 29, Mine.initAt 30, Mine.initAt 31, Mine.initAt 32, Mine.initAt 33, Mine.initAt 34, Mine.initAt 35, Mine.initAt 36, Mine.initAt 37, Mine.initAt 38] := by rfl
theorem Mine.wr_enterD
 {dp un : Nat} {cenv : Env} {l : List Env} {h₀ : Heap} {L : Addr} {m : Str → Option Value} {news frs : Mine.Led} {s : Shared} {Q E : Value → Shared → Prop}
 {v1 v2 vsz va vb vp vt vbg vl : Value}  (F : Fr h₀ L s.heap m) (X : (Mine.w.heap_1 w.params).In h₀) (N : News h₀ L s.heap news) (T : Top p loose mean mg mb h₀) (Fs : Frs l frs) (sub : ∀ p ∈ frs, p ∈ news) (hf : cenv.frame = some L) (hk : cenv.scope.kind = .function) (hdp : dp + 28 < recursionLimit) (hun : un + 400 < cLine)
 (body : ∀ x d oL L' h₁ tk m', TI.Caller h₀ L m oL → (∀ p ∈ (x, instObj 359 d) :: (d, dictOf [] 0) :: news, p.1 ≠ L) → (∀ p ∈ (L, oL) :: (x, instObj 359 d) :: (d, dictOf [] 0) :: news, p.1 < L') → (∀ p ∈ news, p.1 < d) → d < x →
  (∀ n v, (Mine.initBinds (.ref x) v1 v2 vsz (.ref 236) va vb vp vt vbg vl).reverse.lookup n = some v → m' n = some v) →
  Mine.Here w h₀ L' h₁ m' ((L, oL) :: (x, instObj 359 d) :: (d, dictOf [] 0) :: news) ((L, oL) :: frs) (cenv :: l) p loose mean mg mb Mine.initScope (dp + 2) (un + 4) 24 →
  wpAny (model rw_ar0036_02.row.prog w) ((Mine.Fa (dp + 2) (un + 4) (some []) (cenv :: l)).deeper (envOf "Writer.__init__" Mine.initScope L' 309 (.ref 308))) (execs Mine.initStmts (envOf "Writer.__init__" Mine.initScope L' 309 (.ref 308)))
   (fun fl s' => Mine.LeaveM (InitBack x (fun r s' => match r with | .ok (.ret v) => Q v s' | .ok _ => False | .error e => E e s') (.ok (.ret (match fl with | .ret v => v | _ => .none))) s'))
   (Mine.Out w ((Mine.Fa (dp + 2) (un + 4) (some []) (cenv :: l)).deeper (envOf "Writer.__init__" Mine.initScope L' 309 (.ref 308))) (envOf "Writer.__init__" Mine.initScope L' 309 (.ref 308)) (InitBack x fun r s' => match r with | .ok (.ret v) => Q v s' | .ok _ => False | .error e => E e s'))
   { s with heap := h₁, toks := tk }) :
 wpAny (model rw_ar0036_02.row.prog w) ((Mine.Fa dp un (some []) l).deeper cenv) (call (.ref 359) [v1, v2] [("size", vsz), ("alpha", va), ("bitdepth", vb), ("palette", vp), ("transparent", vt), ("background", vbg), ("interlace", vl)]) Q E s := by
 w_on
 w_strict (
  revert X
  k_fill
  intro X
  k_dflt (refine' call_cls ?k1 ?k2 ?k3 ?k4 ?k5 ?k6 ?_; (case k1 => k_asm); (case k2 => k_asm); (case k3 => k_asm); (case k4 => k_is); (case k5 => k_is); (case k6 => k_is))
  intro x d h1 F1 N1 l1 l2
  rw [Mine.und]
  with_unfolding_all refine' Mine.enterF (name := "__init__") (qual := "Writer.__init__") (body := Mine.initStmts) (scope := Mine.initScope) (binds := Mine.initBinds (.ref x) v1 v2 vsz (.ref 236) va vb vp vt vbg vl) F1 X N1 T Fs (fun p hp => .tail _ (.tail _ (sub p hp))) ?kA ?kf ?kke ?k6 ?k7 ?k8 ?k9 ?kB ?_ ?c2 ?c3 ?c4 ?c5
  case kA => exact rfl
  case kf => exact hf
  case kke => exact hk
  case k6 => k_is
  case k7 => k_is
  case k8 => first | ktr_room | k_room | (show dp + 1 + 1 < recursionLimit; omega)
  case k9 =>
   refine' Mine.binds_load (T := 302) ?ho ?hh1 ?hh2
   case ho => exact (Frag.In.keeps X (Fr.keep F1)) _ _ (by k_is)
   case hh1 => kernel_rfl
   case hh2 => kernel_rfl
  case kB => exact locs rfl
  case c2 => exact rfl
  case c3 => exact rfl
  case c4 => exact rfl
  case c5 => decide +kernel)
 intro oL L' h₁ C' Fs' sub' lt' up' ne' F' N'
 exact body x d oL L' h₁ _ _ C' ne' lt' l1 l2 (fun n v h => h) ⟨F', X, N', T, Fs', sub', rfl, by omega, by omega⟩
theorem Mine.wr_enterG
 {dp un : Nat} {cenv : Env} {l : List Env} {h₀ : Heap} {L : Addr} {m : Str → Option Value} {news frs : Mine.Led} {s : Shared} {Q E : Value → Shared → Prop}
 {v1 v2 vsz va vb vp vt vbg vl : Value} {vg : Value} (F : Fr h₀ L s.heap m) (X : (Mine.w.heap_1 w.params).In h₀) (N : News h₀ L s.heap news) (T : Top p loose mean mg mb h₀) (Fs : Frs l frs) (sub : ∀ p ∈ frs, p ∈ news) (hf : cenv.frame = some L) (hk : cenv.scope.kind = .function) (hdp : dp + 28 < recursionLimit) (hun : un + 400 < cLine)
 (body : ∀ x d oL L' h₁ tk m', TI.Caller h₀ L m oL → (∀ p ∈ (x, instObj 359 d) :: (d, dictOf [] 0) :: news, p.1 ≠ L) → (∀ p ∈ (L, oL) :: (x, instObj 359 d) :: (d, dictOf [] 0) :: news, p.1 < L') → (∀ p ∈ news, p.1 < d) → d < x →
  (∀ n v, (Mine.initBinds (.ref x) v1 v2 vsz vg va vb vp vt vbg vl).reverse.lookup n = some v → m' n = some v) →
  Mine.Here w h₀ L' h₁ m' ((L, oL) :: (x, instObj 359 d) :: (d, dictOf [] 0) :: news) ((L, oL) :: frs) (cenv :: l) p loose mean mg mb Mine.initScope (dp + 2) (un + 4) 24 →
  wpAny (model rw_ar0036_02.row.prog w) ((Mine.Fa (dp + 2) (un + 4) (some []) (cenv :: l)).deeper (envOf "Writer.__init__" Mine.initScope L' 309 (.ref 308))) (execs Mine.initStmts (envOf "Writer.__init__" Mine.initScope L' 309 (.ref 308)))
   (fun fl s' => Mine.LeaveM (InitBack x (fun r s' => match r with | .ok (.ret v) => Q v s' | .ok _ => False | .error e => E e s') (.ok (.ret (match fl with | .ret v => v | _ => .none))) s'))
   (Mine.Out w ((Mine.Fa (dp + 2) (un + 4) (some []) (cenv :: l)).deeper (envOf "Writer.__init__" Mine.initScope L' 309 (.ref 308))) (envOf "Writer.__init__" Mine.initScope L' 309 (.ref 308)) (InitBack x fun r s' => match r with | .ok (.ret v) => Q v s' | .ok _ => False | .error e => E e s'))
   { s with heap := h₁, toks := tk }) :
 wpAny (model rw_ar0036_02.row.prog w) ((Mine.Fa dp un (some []) l).deeper cenv) (call (.ref 359) [v1, v2] [("size", vsz), ("greyscale", vg), ("alpha", va), ("bitdepth", vb), ("palette", vp), ("transparent", vt), ("background", vbg), ("interlace", vl)]) Q E s := by
 w_on
 w_strict (
  revert X
  k_fill
  intro X
  k_dflt (refine' call_cls ?k1 ?k2 ?k3 ?k4 ?k5 ?k6 ?_; (case k1 => k_asm); (case k2 => k_asm); (case k3 => k_asm); (case k4 => k_is); (case k5 => k_is); (case k6 => k_is))
  intro x d h1 F1 N1 l1 l2
  rw [Mine.und]
  with_unfolding_all refine' Mine.enterF (name := "__init__") (qual := "Writer.__init__") (body := Mine.initStmts) (scope := Mine.initScope) (binds := Mine.initBinds (.ref x) v1 v2 vsz vg va vb vp vt vbg vl) F1 X N1 T Fs (fun p hp => .tail _ (.tail _ (sub p hp))) ?kA ?kf ?kke ?k6 ?k7 ?k8 ?k9 ?kB ?_ ?c2 ?c3 ?c4 ?c5
  case kA => exact rfl
  case kf => exact hf
  case kke => exact hk
  case k6 => k_is
  case k7 => k_is
  case k8 => first | ktr_room | k_room | (show dp + 1 + 1 < recursionLimit; omega)
  case k9 =>
   refine' Mine.binds_load (T := 302) ?ho ?hh1 ?hh2
   case ho => exact (Frag.In.keeps X (Fr.keep F1)) _ _ (by k_is)
   case hh1 => kernel_rfl
   case hh2 => kernel_rfl
  case kB => exact locs rfl
  case c2 => exact rfl
  case c3 => exact rfl
  case c4 => exact rfl
  case c5 => decide +kernel)
 intro oL L' h₁ C' Fs' sub' lt' up' ne' F' N'
 exact body x d oL L' h₁ _ _ C' ne' lt' l1 l2 (fun n v h => h) ⟨F', X, N', T, Fs', sub', rfl, by omega, by omega⟩
end
section
variable {w : World} {p : Program} {loose : List Str} {mean : ExcName → Option Value} {mg mb : Str → Option Value}
namespace Mine
inductive InstIs (w : World) (nw : Led) (x : Addr) (kvs : List (Str × Value)) : Prop
  | mk (d : Addr) (es : List DictEntry) (n : Nat) : (x, instObj 359 d) ∈ nw → (d, dictOf es n) ∈ nw → EntsAre w es kvs → InstIs w nw x kvs
theorem wr_done {dp un : Nat} {l : List Env} {cenv : Env} {h₀ : Heap} {L L' : Addr} {oL : Obj} {frs obj' : Led} {x d : Addr} {kvs : List (Str × Value)} {m m' : Str → Option Value} {h : Heap} (C : TI.Caller h₀ L m oL) (S : St2 w p loose mean mg mb dp un (cenv :: l) h₀ L' ((L, oL) :: frs) x d #[] kvs obj' m' h) (hxL : x ≠ L) (hdL : d ≠ L) (hfL : ∀ p ∈ frs, p.1 ≠ L) :
    ∃ nw frs2, Fr h₀ L h m ∧ News h₀ L h nw ∧ SameUp frs frs2 ∧ Frs l frs2 ∧ (∀ p ∈ frs2, p ∈ nw) ∧ InstIs w nw x kvs ∧ ∀ p ∈ obj', p ∈ nw := by
  obtain ⟨rest, frs', es, n, SU, H, he, hs, hne, hx, ho⟩ := S.ex
  match frs', SU, H, hs with
  | q :: frs2, SU, H, hs =>
    obtain ⟨e1, ⟨sl, e2⟩, SU2⟩ := SU
    obtain ⟨qa, qo⟩ := q
    dsimp only at e1 e2
    subst e1 e2
    have mem : ∀ p ∈ (d, dictOf es n) :: rest, p.1 ≠ qa → p ∈ ((d, dictOf es n) :: rest).filter fun p => p.1 != qa := fun p hp h => List.mem_filter.mpr ⟨hp, by simpa using h⟩
    have hb := backF (sl := sl) (news := ((d, dictOf es n) :: rest).filter fun p => p.1 != qa) C H.F H.N (.tail _ (hs _ (.head _))) fun p hp => by
      rw [List.mem_filter] at hp
      exact ⟨hp.1, by simpa using hp.2⟩
    refine ⟨_, frs2, hb.1, hb.2, SU2, H.Fs.2.2.2, fun p hp => mem p (.tail _ (hs p (.tail _ hp))) ?_, ⟨d, es, n, mem _ (.tail _ hx) hxL, mem _ (.head _) hdL, he⟩, fun p hp => mem p (.tail _ (ho p hp)) (Ne.symm (S.ap p hp _ (.head _)))⟩
    obtain ⟨q, hq, e⟩ := SameUp.fwd SU2 p hp
    rw [e]; exact hfL q hq
theorem DepIn.mono {nw nw' : Led} (h : ∀ p ∈ nw, p ∈ nw') {v : Value} {qs : List Int} : DepIn nw v qs → DepIn nw' v qs
  | .one d t => .one d t
  | .tup k1 k2 => .tup (h _ k1) k2
theorem writer_nD
  {dp un : Nat} {cenv : Env} {l : List Env} {h₀ : Heap} {L : Addr} {m : Str → Option Value} {news frs obj : Led} {s : Shared} {Q E : Value → Shared → Prop}
  {X Y lc : Int} {ok : Prop} {v1 v2 vsz tv bv dv vp : Value} {go : Option Bool} {al : Bool} {tc bc : Col} {qs : List Int} {ul : Tok}  (F : Fr h₀ L s.heap m) (X0 : (Mine.w.heap_1 w.params).In h₀) (N : News h₀ L s.heap news) (T : Top p loose mean mg mb h₀) (Fs : Frs l frs) (sub : ∀ p ∈ frs, p ∈ news) (hf : cenv.frame = some L) (hk : cenv.scope.kind = .function) (hdp : dp + 28 < recursionLimit) (hun : un + 400 < cLine)
  (ho : ∀ p ∈ obj, p ∈ news) (hap : ∀ p ∈ obj, ∀ q ∈ frs, q.1 ≠ p.1) (hz : ∀ m : PySem.Str → Option Value, m "size" = some vsz → m "width" = some v1 → m "height" = some v2 → SizeIn obj m X Y ok) (bx0 : -10000000000 < X) (bx1 : X < 10000000000) (by0 : -10000000000 < Y) (by1 : Y < 10000000000) (hg : GreyIs (.ref 236) go) (hdp2 : DepIn obj dv qs) (hqn : qs ≠ []) (hq6 : qs.length ≤ 6) (hqb : ∀ n ∈ qs, -10000000000 < n ∧ n < 10000000000) (htc : ColIs obj tv tc) (hbc : ColIs obj bv bc) (hft : ColForm (go.getD true) tc) (hfb : ColForm (go.getD true) bc) (hql : qs.length = 1 ∨ qs.length = (if go.getD true then 1 else 3) + (if al then 1 else 0))
  (hret : (ok ∧ 0 < X ∧ 0 < Y ∧ X ≤ 2147483647 ∧ Y ≤ 2147483647 ∧ (al = true → tc = .no) ∧ (∀ q ∈ qs, 1 ≤ q ∧ q ≤ 16)) ∧ ColGood (go.getD true) tc ∧ ColGood (go.getD true) bc → ∀ g, go.getD true = g → ∀ x h' tk' nw frs2 qs' tg rr vt vb ux uy ut uc u1 u2, Spread ((if g then 1 else 3) + (if al then 1 else 0)) qs qs' → tg = fileN g al qs' → CbrPost qs' tg rr nw → ColIs nw vt (colOut tc) → ColIs nw vb (colOut bc) → (∀ p ∈ obj, p ∈ nw) → InstIs w nw x [("rescale", rr), ("width", Value.int X ux), ("height", Value.int Y uy), ("transparent", vt), ("background", vb), ("greyscale", Value.bool g), ("alpha", Value.bool al), ("colormap", Value.bool false), ("bitdepth", Value.int tg ut), ("compression", .none), ("chunk_limit", (.int 1048576 712)), ("interlace", Value.bool (lc != 0)), ("palette", .none), ("x_pixels_per_unit", .none), ("y_pixels_per_unit", .none), ("unit_is_meter", Value.bool false), ("color_type", Value.int (if false then 3 else (if g then 0 else 2) + (if al then 4 else 0)) uc), ("color_planes", (Value.int (if g then 1 else 3) u2)), ("planes", (Value.int (((if g then 1 else 3) + (if al then 1 else 0) : Nat)) u1))] → SameUp frs frs2 → Frs l frs2 → (∀ p ∈ frs2, p ∈ nw) → Fr h₀ L h' m → News h₀ L h' nw → Q (.ref x) { s with heap := h', toks := tk' })
  (hraise : ¬ ((ok ∧ 0 < X ∧ 0 < Y ∧ X ≤ 2147483647 ∧ Y ≤ 2147483647 ∧ (al = true → tc = .no) ∧ (∀ q ∈ qs, 1 ≤ q ∧ q ≤ 16)) ∧ ColGood (go.getD true) tc ∧ ColGood (go.getD true) bc) → ∀ e a0 h' tk' oL, TI.Caller h₀ L m oL → Heap.FlyingW h₀ (cenv :: l) e (.ref 224) a0 h' → Up ((L, oL) :: frs) h' → E (.ref e) { s with heap := h', toks := tk' }) :
  wpAny (model rw_ar0036_02.row.prog w) ((Fa dp un (some []) l).deeper cenv) (call (.ref 359) [v1, v2] [("size", vsz), ("alpha", .bool al), ("bitdepth", dv), ("palette", .none), ("transparent", tv), ("background", bv), ("interlace", .int lc ul)]) Q E s := by
  refine wr_enterD F X0 N T Fs sub hf hk hdp hun fun x d oL L' h₁ tk m' C hne lt hld hdx look H => ?_
  rw [initStmts_eq]
  have hxL := hne _ (.head _)
  have hdL := hne _ (.tail _ (.head _))
  have hfL : ∀ q ∈ frs, q.1 ≠ L := fun q hq => hne q (.tail _ (.tail _ (sub q hq)))
  have S : St w p loose mean mg mb (dp + 2) (un + 4) (cenv :: l) h₀ L' ((L, oL) :: frs) ((x, instObj 359 d) :: (d, dictOf [] 0) :: obj) m' h₁ := by
    refine ⟨⟨_, _, SameUp.refl _, H, fun p hp => ?_⟩, fun p hp q hq => ?_⟩
    · rcases List.mem_cons.mp hp with rfl | hp
      · exact .tail _ (.head _)
      · rcases List.mem_cons.mp hp with rfl | hp
        · exact .tail _ (.tail _ (.head _))
        · exact .tail _ (.tail _ (.tail _ (ho p hp)))
    · have hfd : ∀ q ∈ frs, q.1 < d := fun q hq => hld q (sub q hq)
      rcases List.mem_cons.mp hq with rfl | hq
      · rcases List.mem_cons.mp hp with rfl | hp
        · exact Ne.symm hxL
        · rcases List.mem_cons.mp hp with rfl | hp
          · exact Ne.symm hdL
          · exact Ne.symm (hne p (.tail _ (.tail _ (ho p hp))))
      · rcases List.mem_cons.mp hp with rfl | hp
        · exact Nat.ne_of_lt (Nat.lt_trans (hfd q hq) hdx)
        · rcases List.mem_cons.mp hp with rfl | hp
          · exact Nat.ne_of_lt (hfd q hq)
          · exact hap p hp q hq
  have hob : ∀ p ∈ obj, p ∈ (x, instObj 359 d) :: (d, dictOf [] 0) :: obj := fun p hp => .tail _ (.tail _ hp)
  have hobd : ∀ p ∈ obj, p.1 ≠ d := fun p hp => Nat.ne_of_lt (hld p (ho p hp))
  refine init_n (s := { s with heap := h₁, toks := tk }) (sl := #[]) (n0 := 0) S (.head _) (.tail _ (.head _)) (Nat.ne_of_gt hdx) (look _ _ rfl) ((hz m' (look _ _ rfl) (look _ _ rfl) (look _ _ rfl)).mono hob) bx0 bx1 by0 by1 (look _ _ rfl) hg (look _ _ rfl) (look _ _ rfl) (hdp2.mono hob) hqn hq6 hqb (look _ _ rfl) (htc.mono hob) (look _ _ rfl) (hbc.mono hob) (look _ _ rfl) (look _ _ rfl) (look _ _ rfl) (look _ _ rfl) (look _ _ rfl) (look _ _ rfl) (look _ _ rfl) hft hfb hql (fun good g eg m2 h2 tk2 obj2 qs' tg rr vt vb ux uy ut uc u1 u2 hsp htg post c1 c2 keep S2 => ?_) fun bd e a0 h' tk' fl up => hraise bd e a0 h' tk' oL C fl up
  obtain ⟨nw, frs2, F3, N3, SU3, Fs3, s3, hi3, o3⟩ := wr_done C S2 hxL hdL hfL
  exact ⟨rfl, hret good g eg x h2 tk2 nw frs2 qs' tg rr vt vb ux uy ut uc u1 u2 hsp htg (post.off fun a o ha _ => o3 _ ha) (c1.mono o3) (c2.mono o3) (fun p hp => o3 p (keep p (hob p hp) (hobd p hp))) hi3 SU3 Fs3 s3 F3 N3⟩
theorem writer_nG
  {dp un : Nat} {cenv : Env} {l : List Env} {h₀ : Heap} {L : Addr} {m : Str → Option Value} {news frs obj : Led} {s : Shared} {Q E : Value → Shared → Prop}
  {X Y lc : Int} {ok : Prop} {v1 v2 vsz vg tv bv dv vp : Value} {go : Option Bool} {al : Bool} {tc bc : Col} {qs : List Int} {ul : Tok}  (F : Fr h₀ L s.heap m) (X0 : (Mine.w.heap_1 w.params).In h₀) (N : News h₀ L s.heap news) (T : Top p loose mean mg mb h₀) (Fs : Frs l frs) (sub : ∀ p ∈ frs, p ∈ news) (hf : cenv.frame = some L) (hk : cenv.scope.kind = .function) (hdp : dp + 28 < recursionLimit) (hun : un + 400 < cLine)
  (ho : ∀ p ∈ obj, p ∈ news) (hap : ∀ p ∈ obj, ∀ q ∈ frs, q.1 ≠ p.1) (hz : ∀ m : PySem.Str → Option Value, m "size" = some vsz → m "width" = some v1 → m "height" = some v2 → SizeIn obj m X Y ok) (bx0 : -10000000000 < X) (bx1 : X < 10000000000) (by0 : -10000000000 < Y) (by1 : Y < 10000000000) (hg : GreyIs vg go) (hdp2 : DepIn obj dv qs) (hqn : qs ≠ []) (hq6 : qs.length ≤ 6) (hqb : ∀ n ∈ qs, -10000000000 < n ∧ n < 10000000000) (htc : ColIs obj tv tc) (hbc : ColIs obj bv bc) (hft : ColForm (go.getD true) tc) (hfb : ColForm (go.getD true) bc) (hql : qs.length = 1 ∨ qs.length = (if go.getD true then 1 else 3) + (if al then 1 else 0))
  (hret : (ok ∧ 0 < X ∧ 0 < Y ∧ X ≤ 2147483647 ∧ Y ≤ 2147483647 ∧ (al = true → tc = .no) ∧ (∀ q ∈ qs, 1 ≤ q ∧ q ≤ 16)) ∧ ColGood (go.getD true) tc ∧ ColGood (go.getD true) bc → ∀ g, go.getD true = g → ∀ x h' tk' nw frs2 qs' tg rr vt vb ux uy ut uc u1 u2, Spread ((if g then 1 else 3) + (if al then 1 else 0)) qs qs' → tg = fileN g al qs' → CbrPost qs' tg rr nw → ColIs nw vt (colOut tc) → ColIs nw vb (colOut bc) → (∀ p ∈ obj, p ∈ nw) → InstIs w nw x [("rescale", rr), ("width", Value.int X ux), ("height", Value.int Y uy), ("transparent", vt), ("background", vb), ("greyscale", Value.bool g), ("alpha", Value.bool al), ("colormap", Value.bool false), ("bitdepth", Value.int tg ut), ("compression", .none), ("chunk_limit", (.int 1048576 712)), ("interlace", Value.bool (lc != 0)), ("palette", .none), ("x_pixels_per_unit", .none), ("y_pixels_per_unit", .none), ("unit_is_meter", Value.bool false), ("color_type", Value.int (if false then 3 else (if g then 0 else 2) + (if al then 4 else 0)) uc), ("color_planes", (Value.int (if g then 1 else 3) u2)), ("planes", (Value.int (((if g then 1 else 3) + (if al then 1 else 0) : Nat)) u1))] → SameUp frs frs2 → Frs l frs2 → (∀ p ∈ frs2, p ∈ nw) → Fr h₀ L h' m → News h₀ L h' nw → Q (.ref x) { s with heap := h', toks := tk' })
  (hraise : ¬ ((ok ∧ 0 < X ∧ 0 < Y ∧ X ≤ 2147483647 ∧ Y ≤ 2147483647 ∧ (al = true → tc = .no) ∧ (∀ q ∈ qs, 1 ≤ q ∧ q ≤ 16)) ∧ ColGood (go.getD true) tc ∧ ColGood (go.getD true) bc) → ∀ e a0 h' tk' oL, TI.Caller h₀ L m oL → Heap.FlyingW h₀ (cenv :: l) e (.ref 224) a0 h' → Up ((L, oL) :: frs) h' → E (.ref e) { s with heap := h', toks := tk' }) :
  wpAny (model rw_ar0036_02.row.prog w) ((Fa dp un (some []) l).deeper cenv) (call (.ref 359) [v1, v2] [("size", vsz), ("greyscale", vg), ("alpha", .bool al), ("bitdepth", dv), ("palette", .none), ("transparent", tv), ("background", bv), ("interlace", .int lc ul)]) Q E s := by
  refine wr_enterG F X0 N T Fs sub hf hk hdp hun fun x d oL L' h₁ tk m' C hne lt hld hdx look H => ?_
  rw [initStmts_eq]
  have hxL := hne _ (.head _)
  have hdL := hne _ (.tail _ (.head _))
  have hfL : ∀ q ∈ frs, q.1 ≠ L := fun q hq => hne q (.tail _ (.tail _ (sub q hq)))
  have S : St w p loose mean mg mb (dp + 2) (un + 4) (cenv :: l) h₀ L' ((L, oL) :: frs) ((x, instObj 359 d) :: (d, dictOf [] 0) :: obj) m' h₁ := by
    refine ⟨⟨_, _, SameUp.refl _, H, fun p hp => ?_⟩, fun p hp q hq => ?_⟩
    · rcases List.mem_cons.mp hp with rfl | hp
      · exact .tail _ (.head _)
      · rcases List.mem_cons.mp hp with rfl | hp
        · exact .tail _ (.tail _ (.head _))
        · exact .tail _ (.tail _ (.tail _ (ho p hp)))
    · have hfd : ∀ q ∈ frs, q.1 < d := fun q hq => hld q (sub q hq)
      rcases List.mem_cons.mp hq with rfl | hq
      · rcases List.mem_cons.mp hp with rfl | hp
        · exact Ne.symm hxL
        · rcases List.mem_cons.mp hp with rfl | hp
          · exact Ne.symm hdL
          · exact Ne.symm (hne p (.tail _ (.tail _ (ho p hp))))
      · rcases List.mem_cons.mp hp with rfl | hp
        · exact Nat.ne_of_lt (Nat.lt_trans (hfd q hq) hdx)
        · rcases List.mem_cons.mp hp with rfl | hp
          · exact Nat.ne_of_lt (hfd q hq)
          · exact hap p hp q hq
  have hob : ∀ p ∈ obj, p ∈ (x, instObj 359 d) :: (d, dictOf [] 0) :: obj := fun p hp => .tail _ (.tail _ hp)
  have hobd : ∀ p ∈ obj, p.1 ≠ d := fun p hp => Nat.ne_of_lt (hld p (ho p hp))
  refine init_n (s := { s with heap := h₁, toks := tk }) (sl := #[]) (n0 := 0) S (.head _) (.tail _ (.head _)) (Nat.ne_of_gt hdx) (look _ _ rfl) ((hz m' (look _ _ rfl) (look _ _ rfl) (look _ _ rfl)).mono hob) bx0 bx1 by0 by1 (look _ _ rfl) hg (look _ _ rfl) (look _ _ rfl) (hdp2.mono hob) hqn hq6 hqb (look _ _ rfl) (htc.mono hob) (look _ _ rfl) (hbc.mono hob) (look _ _ rfl) (look _ _ rfl) (look _ _ rfl) (look _ _ rfl) (look _ _ rfl) (look _ _ rfl) (look _ _ rfl) hft hfb hql (fun good g eg m2 h2 tk2 obj2 qs' tg rr vt vb ux uy ut uc u1 u2 hsp htg post c1 c2 keep S2 => ?_) fun bd e a0 h' tk' fl up => hraise bd e a0 h' tk' oL C fl up
  obtain ⟨nw, frs2, F3, N3, SU3, Fs3, s3, hi3, o3⟩ := wr_done C S2 hxL hdL hfL
  exact ⟨rfl, hret good g eg x h2 tk2 nw frs2 qs' tg rr vt vb ux uy ut uc u1 u2 hsp htg (post.off fun a o ha _ => o3 _ ha) (c1.mono o3) (c2.mono o3) (fun p hp => o3 p (keep p (hob p hp) (hobd p hp))) hi3 SU3 Fs3 s3 F3 N3⟩
theorem writer_lD
  {dp un : Nat} {cenv : Env} {l : List Env} {h₀ : Heap} {L : Addr} {m : Str → Option Value} {news frs obj : Led} {s : Shared} {Q E : Value → Shared → Prop}
  {X Y lc : Int} {ok : Prop} {v1 v2 vsz tv bv dv vp : Value} {go : Option Bool} {al : Bool} {tc bc : Col} {qs : List Int} {ul : Tok} {lp : Addr} {ps : List Value} {np : Nat} {es : List (List Int)} {q : Int} (F : Fr h₀ L s.heap m) (X0 : (Mine.w.heap_1 w.params).In h₀) (N : News h₀ L s.heap news) (T : Top p loose mean mg mb h₀) (Fs : Frs l frs) (sub : ∀ p ∈ frs, p ∈ news) (hf : cenv.frame = some L) (hk : cenv.scope.kind = .function) (hdp : dp + 28 < recursionLimit) (hun : un + 400 < cLine)
  (ho : ∀ p ∈ obj, p ∈ news) (hap : ∀ p ∈ obj, ∀ q ∈ frs, q.1 ≠ p.1) (hz : ∀ m : PySem.Str → Option Value, m "size" = some vsz → m "width" = some v1 → m "height" = some v2 → SizeIn obj m X Y ok) (bx0 : -10000000000 < X) (bx1 : X < 10000000000) (by0 : -10000000000 < Y) (by1 : Y < 10000000000) (hg : GreyIs (.ref 236) go) (hdp2 : DepIn obj dv qs) (hqn : qs ≠ []) (hq6 : qs.length ≤ 6) (hqb : ∀ n ∈ qs, -10000000000 < n ∧ n < 10000000000) (htc : ColIs obj tv tc) (hbc : ColIs obj bv bc) (hlp : (lp, W.listOf ps.toArray np) ∈ obj) (hpa : PalAre obj ps es) (hpl : ps.length ≤ 300) (hel : ∀ e ∈ es, e.length ≤ 8) (hqs : qs = [q]) (hbn : bc = .no)
  (hret : (ok ∧ 0 < X ∧ 0 < Y ∧ X ≤ 2147483647 ∧ Y ≤ 2147483647 ∧ (al = true → tc = .no) ∧ (∀ q ∈ qs, 1 ≤ q ∧ q ≤ 16)) ∧ PalGood es ∧ (q = 1 ∨ q = 2 ∨ q = 4 ∨ q = 8) ∧ tc = .no ∧ al = false ∧ go.getD false = false → ∀ x h' tk' nw frs2 l2 k tg rr vt vb ux uy ut uc u1 u2, (l2, W.listOf ps.toArray k) ∈ nw → tg = q → CbrPost [q] tg rr nw → ColIs nw vt (colOut tc) → ColIs nw vb (colOut bc) → (∀ p ∈ obj, p ∈ nw) → InstIs w nw x [("rescale", rr), ("width", Value.int X ux), ("height", Value.int Y uy), ("transparent", vt), ("background", vb), ("greyscale", Value.bool false), ("alpha", Value.bool al), ("colormap", Value.bool true), ("bitdepth", Value.int tg ut), ("compression", .none), ("chunk_limit", (.int 1048576 712)), ("interlace", Value.bool (lc != 0)), ("palette", (.ref l2)), ("x_pixels_per_unit", .none), ("y_pixels_per_unit", .none), ("unit_is_meter", Value.bool false), ("color_type", Value.int (if true then 3 else (if false then 0 else 2) + (if al then 4 else 0)) uc), ("color_planes", (Value.int 1 u2)), ("planes", (Value.int 1 u1))] → SameUp frs frs2 → Frs l frs2 → (∀ p ∈ frs2, p ∈ nw) → Fr h₀ L h' m → News h₀ L h' nw → Q (.ref x) { s with heap := h', toks := tk' })
  (hraise : ¬ ((ok ∧ 0 < X ∧ 0 < Y ∧ X ≤ 2147483647 ∧ Y ≤ 2147483647 ∧ (al = true → tc = .no) ∧ (∀ q ∈ qs, 1 ≤ q ∧ q ≤ 16)) ∧ PalGood es ∧ (q = 1 ∨ q = 2 ∨ q = 4 ∨ q = 8) ∧ tc = .no ∧ al = false ∧ go.getD false = false) → ∀ e a0 h' tk' oL, TI.Caller h₀ L m oL → Heap.FlyingW h₀ (cenv :: l) e (.ref 224) a0 h' → Up ((L, oL) :: frs) h' → E (.ref e) { s with heap := h', toks := tk' }) :
  wpAny (model rw_ar0036_02.row.prog w) ((Fa dp un (some []) l).deeper cenv) (call (.ref 359) [v1, v2] [("size", vsz), ("alpha", .bool al), ("bitdepth", dv), ("palette", (.ref lp)), ("transparent", tv), ("background", bv), ("interlace", .int lc ul)]) Q E s := by
  refine wr_enterD F X0 N T Fs sub hf hk hdp hun fun x d oL L' h₁ tk m' C hne lt hld hdx look H => ?_
  rw [initStmts_eq]
  have hxL := hne _ (.head _)
  have hdL := hne _ (.tail _ (.head _))
  have hfL : ∀ q ∈ frs, q.1 ≠ L := fun q hq => hne q (.tail _ (.tail _ (sub q hq)))
  have S : St w p loose mean mg mb (dp + 2) (un + 4) (cenv :: l) h₀ L' ((L, oL) :: frs) ((x, instObj 359 d) :: (d, dictOf [] 0) :: obj) m' h₁ := by
    refine ⟨⟨_, _, SameUp.refl _, H, fun p hp => ?_⟩, fun p hp q hq => ?_⟩
    · rcases List.mem_cons.mp hp with rfl | hp
      · exact .tail _ (.head _)
      · rcases List.mem_cons.mp hp with rfl | hp
        · exact .tail _ (.tail _ (.head _))
        · exact .tail _ (.tail _ (.tail _ (ho p hp)))
    · have hfd : ∀ q ∈ frs, q.1 < d := fun q hq => hld q (sub q hq)
      rcases List.mem_cons.mp hq with rfl | hq
      · rcases List.mem_cons.mp hp with rfl | hp
        · exact Ne.symm hxL
        · rcases List.mem_cons.mp hp with rfl | hp
          · exact Ne.symm hdL
          · exact Ne.symm (hne p (.tail _ (.tail _ (ho p hp))))
      · rcases List.mem_cons.mp hp with rfl | hp
        · exact Nat.ne_of_lt (Nat.lt_trans (hfd q hq) hdx)
        · rcases List.mem_cons.mp hp with rfl | hp
          · exact Nat.ne_of_lt (hfd q hq)
          · exact hap p hp q hq
  have hob : ∀ p ∈ obj, p ∈ (x, instObj 359 d) :: (d, dictOf [] 0) :: obj := fun p hp => .tail _ (.tail _ hp)
  have hobd : ∀ p ∈ obj, p.1 ≠ d := fun p hp => Nat.ne_of_lt (hld p (ho p hp))
  refine init_l (s := { s with heap := h₁, toks := tk }) (sl := #[]) (n0 := 0) S (.head _) (.tail _ (.head _)) (Nat.ne_of_gt hdx) (look _ _ rfl) ((hz m' (look _ _ rfl) (look _ _ rfl) (look _ _ rfl)).mono hob) bx0 bx1 by0 by1 (look _ _ rfl) hg (look _ _ rfl) (look _ _ rfl) (hdp2.mono hob) hqn hq6 hqb (look _ _ rfl) (htc.mono hob) (look _ _ rfl) (hbc.mono hob) (look _ _ rfl) (look _ _ rfl) (look _ _ rfl) (look _ _ rfl) (look _ _ rfl) (look _ _ rfl) (look _ _ rfl) (hob _ hlp) (hpa.mono hob) hpl hel hqs hbn (fun good m2 h2 tk2 obj2 l2 k tg rr vt vb ux uy ut uc u1 u2 hl2 htg post c1 c2 keep S2 => ?_) fun bd e a0 h' tk' fl up => hraise bd e a0 h' tk' oL C fl up
  obtain ⟨nw, frs2, F3, N3, SU3, Fs3, s3, hi3, o3⟩ := wr_done C S2 hxL hdL hfL
  exact ⟨rfl, hret good x h2 tk2 nw frs2 l2 k tg rr vt vb ux uy ut uc u1 u2 (o3 _ hl2) htg (post.off fun a o ha _ => o3 _ ha) (c1.mono o3) (c2.mono o3) (fun p hp => o3 p (keep p (hob p hp) (hobd p hp))) hi3 SU3 Fs3 s3 F3 N3⟩
theorem writer_lG
  {dp un : Nat} {cenv : Env} {l : List Env} {h₀ : Heap} {L : Addr} {m : Str → Option Value} {news frs obj : Led} {s : Shared} {Q E : Value → Shared → Prop}
  {X Y lc : Int} {ok : Prop} {v1 v2 vsz vg tv bv dv vp : Value} {go : Option Bool} {al : Bool} {tc bc : Col} {qs : List Int} {ul : Tok} {lp : Addr} {ps : List Value} {np : Nat} {es : List (List Int)} {q : Int} (F : Fr h₀ L s.heap m) (X0 : (Mine.w.heap_1 w.params).In h₀) (N : News h₀ L s.heap news) (T : Top p loose mean mg mb h₀) (Fs : Frs l frs) (sub : ∀ p ∈ frs, p ∈ news) (hf : cenv.frame = some L) (hk : cenv.scope.kind = .function) (hdp : dp + 28 < recursionLimit) (hun : un + 400 < cLine)
  (ho : ∀ p ∈ obj, p ∈ news) (hap : ∀ p ∈ obj, ∀ q ∈ frs, q.1 ≠ p.1) (hz : ∀ m : PySem.Str → Option Value, m "size" = some vsz → m "width" = some v1 → m "height" = some v2 → SizeIn obj m X Y ok) (bx0 : -10000000000 < X) (bx1 : X < 10000000000) (by0 : -10000000000 < Y) (by1 : Y < 10000000000) (hg : GreyIs vg go) (hdp2 : DepIn obj dv qs) (hqn : qs ≠ []) (hq6 : qs.length ≤ 6) (hqb : ∀ n ∈ qs, -10000000000 < n ∧ n < 10000000000) (htc : ColIs obj tv tc) (hbc : ColIs obj bv bc) (hlp : (lp, W.listOf ps.toArray np) ∈ obj) (hpa : PalAre obj ps es) (hpl : ps.length ≤ 300) (hel : ∀ e ∈ es, e.length ≤ 8) (hqs : qs = [q]) (hbn : bc = .no)
  (hret : (ok ∧ 0 < X ∧ 0 < Y ∧ X ≤ 2147483647 ∧ Y ≤ 2147483647 ∧ (al = true → tc = .no) ∧ (∀ q ∈ qs, 1 ≤ q ∧ q ≤ 16)) ∧ PalGood es ∧ (q = 1 ∨ q = 2 ∨ q = 4 ∨ q = 8) ∧ tc = .no ∧ al = false ∧ go.getD false = false → ∀ x h' tk' nw frs2 l2 k tg rr vt vb ux uy ut uc u1 u2, (l2, W.listOf ps.toArray k) ∈ nw → tg = q → CbrPost [q] tg rr nw → ColIs nw vt (colOut tc) → ColIs nw vb (colOut bc) → (∀ p ∈ obj, p ∈ nw) → InstIs w nw x [("rescale", rr), ("width", Value.int X ux), ("height", Value.int Y uy), ("transparent", vt), ("background", vb), ("greyscale", Value.bool false), ("alpha", Value.bool al), ("colormap", Value.bool true), ("bitdepth", Value.int tg ut), ("compression", .none), ("chunk_limit", (.int 1048576 712)), ("interlace", Value.bool (lc != 0)), ("palette", (.ref l2)), ("x_pixels_per_unit", .none), ("y_pixels_per_unit", .none), ("unit_is_meter", Value.bool false), ("color_type", Value.int (if true then 3 else (if false then 0 else 2) + (if al then 4 else 0)) uc), ("color_planes", (Value.int 1 u2)), ("planes", (Value.int 1 u1))] → SameUp frs frs2 → Frs l frs2 → (∀ p ∈ frs2, p ∈ nw) → Fr h₀ L h' m → News h₀ L h' nw → Q (.ref x) { s with heap := h', toks := tk' })
  (hraise : ¬ ((ok ∧ 0 < X ∧ 0 < Y ∧ X ≤ 2147483647 ∧ Y ≤ 2147483647 ∧ (al = true → tc = .no) ∧ (∀ q ∈ qs, 1 ≤ q ∧ q ≤ 16)) ∧ PalGood es ∧ (q = 1 ∨ q = 2 ∨ q = 4 ∨ q = 8) ∧ tc = .no ∧ al = false ∧ go.getD false = false) → ∀ e a0 h' tk' oL, TI.Caller h₀ L m oL → Heap.FlyingW h₀ (cenv :: l) e (.ref 224) a0 h' → Up ((L, oL) :: frs) h' → E (.ref e) { s with heap := h', toks := tk' }) :
  wpAny (model rw_ar0036_02.row.prog w) ((Fa dp un (some []) l).deeper cenv) (call (.ref 359) [v1, v2] [("size", vsz), ("greyscale", vg), ("alpha", .bool al), ("bitdepth", dv), ("palette", (.ref lp)), ("transparent", tv), ("background", bv), ("interlace", .int lc ul)]) Q E s := by
  refine wr_enterG F X0 N T Fs sub hf hk hdp hun fun x d oL L' h₁ tk m' C hne lt hld hdx look H => ?_
  rw [initStmts_eq]
  have hxL := hne _ (.head _)
  have hdL := hne _ (.tail _ (.head _))
  have hfL : ∀ q ∈ frs, q.1 ≠ L := fun q hq => hne q (.tail _ (.tail _ (sub q hq)))
  have S : St w p loose mean mg mb (dp + 2) (un + 4) (cenv :: l) h₀ L' ((L, oL) :: frs) ((x, instObj 359 d) :: (d, dictOf [] 0) :: obj) m' h₁ := by
    refine ⟨⟨_, _, SameUp.refl _, H, fun p hp => ?_⟩, fun p hp q hq => ?_⟩
    · rcases List.mem_cons.mp hp with rfl | hp
      · exact .tail _ (.head _)
      · rcases List.mem_cons.mp hp with rfl | hp
        · exact .tail _ (.tail _ (.head _))
        · exact .tail _ (.tail _ (.tail _ (ho p hp)))
    · have hfd : ∀ q ∈ frs, q.1 < d := fun q hq => hld q (sub q hq)
      rcases List.mem_cons.mp hq with rfl | hq
      · rcases List.mem_cons.mp hp with rfl | hp
        · exact Ne.symm hxL
        · rcases List.mem_cons.mp hp with rfl | hp
          · exact Ne.symm hdL
          · exact Ne.symm (hne p (.tail _ (.tail _ (ho p hp))))
      · rcases List.mem_cons.mp hp with rfl | hp
        · exact Nat.ne_of_lt (Nat.lt_trans (hfd q hq) hdx)
        · rcases List.mem_cons.mp hp with rfl | hp
          · exact Nat.ne_of_lt (hfd q hq)
          · exact hap p hp q hq
  have hob : ∀ p ∈ obj, p ∈ (x, instObj 359 d) :: (d, dictOf [] 0) :: obj := fun p hp => .tail _ (.tail _ hp)
  have hobd : ∀ p ∈ obj, p.1 ≠ d := fun p hp => Nat.ne_of_lt (hld p (ho p hp))
  refine init_l (s := { s with heap := h₁, toks := tk }) (sl := #[]) (n0 := 0) S (.head _) (.tail _ (.head _)) (Nat.ne_of_gt hdx) (look _ _ rfl) ((hz m' (look _ _ rfl) (look _ _ rfl) (look _ _ rfl)).mono hob) bx0 bx1 by0 by1 (look _ _ rfl) hg (look _ _ rfl) (look _ _ rfl) (hdp2.mono hob) hqn hq6 hqb (look _ _ rfl) (htc.mono hob) (look _ _ rfl) (hbc.mono hob) (look _ _ rfl) (look _ _ rfl) (look _ _ rfl) (look _ _ rfl) (look _ _ rfl) (look _ _ rfl) (look _ _ rfl) (hob _ hlp) (hpa.mono hob) hpl hel hqs hbn (fun good m2 h2 tk2 obj2 l2 k tg rr vt vb ux uy ut uc u1 u2 hl2 htg post c1 c2 keep S2 => ?_) fun bd e a0 h' tk' fl up => hraise bd e a0 h' tk' oL C fl up
  obtain ⟨nw, frs2, F3, N3, SU3, Fs3, s3, hi3, o3⟩ := wr_done C S2 hxL hdL hfL
  exact ⟨rfl, hret good x h2 tk2 nw frs2 l2 k tg rr vt vb ux uy ut uc u1 u2 (o3 _ hl2) htg (post.off fun a o ha _ => o3 _ ha) (c1.mono o3) (c2.mono o3) (fun p hp => o3 p (keep p (hob p hp) (hobd p hp))) hi3 SU3 Fs3 s3 F3 N3⟩
end Mine
end
section
variable {w : World} {p : Program} {loose : List Str} {mean : ExcName → Option Value} {mg mb : Str → Option Value}
namespace Mine
inductive Made (w : World) (nw : Led) (x : Addr) (X Y lc : Int) (g al cm : Bool) (qs : List Int) (tg pl cp : Int) (tc bc : Col) (vp : Value) : Prop
  | mk (rr vt vb : Value) (ux uy ut uc u1 u2 : Tok) : CbrPost qs tg rr nw → ColIs nw vt (colOut tc) → ColIs nw vb (colOut bc) → InstIs w nw x [("rescale", rr), ("width", Value.int X ux), ("height", Value.int Y uy), ("transparent", vt), ("background", vb), ("greyscale", Value.bool g), ("alpha", Value.bool al), ("colormap", Value.bool cm), ("bitdepth", Value.int tg ut), ("compression", .none), ("chunk_limit", (.int 1048576 712)), ("interlace", Value.bool (lc != 0)), ("palette", vp), ("x_pixels_per_unit", .none), ("y_pixels_per_unit", .none), ("unit_is_meter", Value.bool false), ("color_type", Value.int (if cm then 3 else (if g then 0 else 2) + (if al then 4 else 0)) uc), ("color_planes", (Value.int cp u2)), ("planes", (Value.int pl u1))] → Made w nw x X Y lc g al cm qs tg pl cp tc bc vp
theorem wcall_nD {dp un : Nat} {cenv : Env} {l : List Env} {h₀ : Heap} {L : Addr} {m : Str → Option Value} {news : Led} {s : Shared} {Q E : Value → Shared → Prop} {X Y lc : Int} {ok : Prop} {v1 v2 vsz tv bv dv : Value} {go : Option Bool} {al : Bool} {tc bc : Col} {qs : List Int} {ul : Tok} (F : Fr h₀ L s.heap m) (X0 : (Mine.w.heap_1 w.params).In h₀) (N : News h₀ L s.heap news) (T : Top p loose mean mg mb h₀) (Fs : Frs l []) (hf : cenv.frame = some L) (hk : cenv.scope.kind = .function) (hdp : dp + 28 < recursionLimit) (hun : un + 400 < cLine) (hz : ∀ m : PySem.Str → Option Value, m "size" = some vsz → m "width" = some v1 → m "height" = some v2 → SizeIn news m X Y ok) (bx0 : -10000000000 < X) (bx1 : X < 10000000000) (by0 : -10000000000 < Y) (by1 : Y < 10000000000) (hg : GreyIs (.ref 236) go) (hdp2 : DepIn news dv qs) (hqn : qs ≠ []) (hq6 : qs.length ≤ 6) (hqb : ∀ n ∈ qs, -10000000000 < n ∧ n < 10000000000) (htc : ColIs news tv tc) (hbc : ColIs news bv bc) (hft : ColForm (go.getD true) tc) (hfb : ColForm (go.getD true) bc) (hql : qs.length = 1 ∨ qs.length = (if go.getD true then 1 else 3) + (if al then 1 else 0)) (hret : (ok ∧ 0 < X ∧ 0 < Y ∧ X ≤ 2147483647 ∧ Y ≤ 2147483647 ∧ (al = true → tc = .no) ∧ (∀ q ∈ qs, 1 ≤ q ∧ q ≤ 16)) ∧ ColGood (go.getD true) tc ∧ ColGood (go.getD true) bc → ∀ x h' tk' nw qs', Spread ((if go.getD true then 1 else 3) + (if al then 1 else 0)) qs qs' → (∀ p ∈ news, p ∈ nw) → Made w nw x X Y lc (go.getD true) al false qs' (fileN (go.getD true) al qs') (((if go.getD true then 1 else 3) + (if al then 1 else 0) : Nat) : Int) (if go.getD true then 1 else 3) tc bc .none → Fr h₀ L h' m → News h₀ L h' nw → Q (.ref x) { s with heap := h', toks := tk' }) (hraise : ¬ ((ok ∧ 0 < X ∧ 0 < Y ∧ X ≤ 2147483647 ∧ Y ≤ 2147483647 ∧ (al = true → tc = .no) ∧ (∀ q ∈ qs, 1 ≤ q ∧ q ≤ 16)) ∧ ColGood (go.getD true) tc ∧ ColGood (go.getD true) bc) → ∀ e a0 h' tk' oL, TI.Caller h₀ L m oL → Heap.FlyingW h₀ (cenv :: l) e (.ref 224) a0 h' → Up [(L, oL)] h' → E (.ref e) { s with heap := h', toks := tk' }) :
 
  wpAny (model rw_ar0036_02.row.prog w) ((Fa dp un (some []) l).deeper cenv) (call (.ref 359) [v1, v2] [("size", vsz), ("alpha", .bool al), ("bitdepth", dv), ("palette", .none), ("transparent", tv), ("background", bv), ("interlace", .int lc ul)]) Q E s := by
  refine writer_nD (vp := Value.none) F X0 N T Fs (fun _ h => nomatch h) hf hk hdp hun (fun _ h => h) (fun _ _ _ h => nomatch h) hz bx0 bx1 by0 by1 hg hdp2 hqn hq6 hqb htc hbc hft hfb hql (fun good g eg x h' tk' nw frs2 qs' tg rr vt vb ux uy ut uc u1 u2 sp et post c1 c2 ob ii _ _ _ F' N' => ?_) hraise
  subst eg et
  exact hret good x h' tk' nw qs' sp ob ⟨rr, vt, vb, ux, uy, ut, uc, u1, u2, post, c1, c2, ii⟩ F' N'
theorem wcall_nG {dp un : Nat} {cenv : Env} {l : List Env} {h₀ : Heap} {L : Addr} {m : Str → Option Value} {news : Led} {s : Shared} {Q E : Value → Shared → Prop} {X Y lc : Int} {ok : Prop} {v1 v2 vsz vg tv bv dv : Value} {go : Option Bool} {al : Bool} {tc bc : Col} {qs : List Int} {ul : Tok} (F : Fr h₀ L s.heap m) (X0 : (Mine.w.heap_1 w.params).In h₀) (N : News h₀ L s.heap news) (T : Top p loose mean mg mb h₀) (Fs : Frs l []) (hf : cenv.frame = some L) (hk : cenv.scope.kind = .function) (hdp : dp + 28 < recursionLimit) (hun : un + 400 < cLine) (hz : ∀ m : PySem.Str → Option Value, m "size" = some vsz → m "width" = some v1 → m "height" = some v2 → SizeIn news m X Y ok) (bx0 : -10000000000 < X) (bx1 : X < 10000000000) (by0 : -10000000000 < Y) (by1 : Y < 10000000000) (hg : GreyIs vg go) (hdp2 : DepIn news dv qs) (hqn : qs ≠ []) (hq6 : qs.length ≤ 6) (hqb : ∀ n ∈ qs, -10000000000 < n ∧ n < 10000000000) (htc : ColIs news tv tc) (hbc : ColIs news bv bc) (hft : ColForm (go.getD true) tc) (hfb : ColForm (go.getD true) bc) (hql : qs.length = 1 ∨ qs.length = (if go.getD true then 1 else 3) + (if al then 1 else 0)) (hret : (ok ∧ 0 < X ∧ 0 < Y ∧ X ≤ 2147483647 ∧ Y ≤ 2147483647 ∧ (al = true → tc = .no) ∧ (∀ q ∈ qs, 1 ≤ q ∧ q ≤ 16)) ∧ ColGood (go.getD true) tc ∧ ColGood (go.getD true) bc → ∀ x h' tk' nw qs', Spread ((if go.getD true then 1 else 3) + (if al then 1 else 0)) qs qs' → (∀ p ∈ news, p ∈ nw) → Made w nw x X Y lc (go.getD true) al false qs' (fileN (go.getD true) al qs') (((if go.getD true then 1 else 3) + (if al then 1 else 0) : Nat) : Int) (if go.getD true then 1 else 3) tc bc .none → Fr h₀ L h' m → News h₀ L h' nw → Q (.ref x) { s with heap := h', toks := tk' }) (hraise : ¬ ((ok ∧ 0 < X ∧ 0 < Y ∧ X ≤ 2147483647 ∧ Y ≤ 2147483647 ∧ (al = true → tc = .no) ∧ (∀ q ∈ qs, 1 ≤ q ∧ q ≤ 16)) ∧ ColGood (go.getD true) tc ∧ ColGood (go.getD true) bc) → ∀ e a0 h' tk' oL, TI.Caller h₀ L m oL → Heap.FlyingW h₀ (cenv :: l) e (.ref 224) a0 h' → Up [(L, oL)] h' → E (.ref e) { s with heap := h', toks := tk' }) :
 
  wpAny (model rw_ar0036_02.row.prog w) ((Fa dp un (some []) l).deeper cenv) (call (.ref 359) [v1, v2] [("size", vsz), ("greyscale", vg), ("alpha", .bool al), ("bitdepth", dv), ("palette", .none), ("transparent", tv), ("background", bv), ("interlace", .int lc ul)]) Q E s := by
  refine writer_nG (vp := Value.none) F X0 N T Fs (fun _ h => nomatch h) hf hk hdp hun (fun _ h => h) (fun _ _ _ h => nomatch h) hz bx0 bx1 by0 by1 hg hdp2 hqn hq6 hqb htc hbc hft hfb hql (fun good g eg x h' tk' nw frs2 qs' tg rr vt vb ux uy ut uc u1 u2 sp et post c1 c2 ob ii _ _ _ F' N' => ?_) hraise
  subst eg et
  exact hret good x h' tk' nw qs' sp ob ⟨rr, vt, vb, ux, uy, ut, uc, u1, u2, post, c1, c2, ii⟩ F' N'
theorem wcall_lD {dp un : Nat} {cenv : Env} {l : List Env} {h₀ : Heap} {L : Addr} {m : Str → Option Value} {news : Led} {s : Shared} {Q E : Value → Shared → Prop} {X Y lc : Int} {ok : Prop} {v1 v2 vsz tv bv dv : Value} {go : Option Bool} {al : Bool} {tc bc : Col} {qs : List Int} {ul : Tok} {lp : Addr} {ps : List Value} {np : Nat} {es : List (List Int)} {q : Int} (F : Fr h₀ L s.heap m) (X0 : (Mine.w.heap_1 w.params).In h₀) (N : News h₀ L s.heap news) (T : Top p loose mean mg mb h₀) (Fs : Frs l []) (hf : cenv.frame = some L) (hk : cenv.scope.kind = .function) (hdp : dp + 28 < recursionLimit) (hun : un + 400 < cLine) (hz : ∀ m : PySem.Str → Option Value, m "size" = some vsz → m "width" = some v1 → m "height" = some v2 → SizeIn news m X Y ok) (bx0 : -10000000000 < X) (bx1 : X < 10000000000) (by0 : -10000000000 < Y) (by1 : Y < 10000000000) (hg : GreyIs (.ref 236) go) (hdp2 : DepIn news dv qs) (hqn : qs ≠ []) (hq6 : qs.length ≤ 6) (hqb : ∀ n ∈ qs, -10000000000 < n ∧ n < 10000000000) (htc : ColIs news tv tc) (hbc : ColIs news bv bc) (hlp : (lp, W.listOf ps.toArray np) ∈ news) (hpa : PalAre news ps es) (hpl : ps.length ≤ 300) (hel : ∀ e ∈ es, e.length ≤ 8) (hqs : qs = [q]) (hbn : bc = .no) (hret : (ok ∧ 0 < X ∧ 0 < Y ∧ X ≤ 2147483647 ∧ Y ≤ 2147483647 ∧ (al = true → tc = .no) ∧ (∀ q ∈ qs, 1 ≤ q ∧ q ≤ 16)) ∧ PalGood es ∧ (q = 1 ∨ q = 2 ∨ q = 4 ∨ q = 8) ∧ tc = .no ∧ al = false ∧ go.getD false = false → ∀ x h' tk' nw l2 k, (l2, W.listOf ps.toArray k) ∈ nw → (∀ p ∈ news, p ∈ nw) → Made w nw x X Y lc false al true [q] q 1 1 tc bc (.ref l2) → Fr h₀ L h' m → News h₀ L h' nw → Q (.ref x) { s with heap := h', toks := tk' }) (hraise : ¬ ((ok ∧ 0 < X ∧ 0 < Y ∧ X ≤ 2147483647 ∧ Y ≤ 2147483647 ∧ (al = true → tc = .no) ∧ (∀ q ∈ qs, 1 ≤ q ∧ q ≤ 16)) ∧ PalGood es ∧ (q = 1 ∨ q = 2 ∨ q = 4 ∨ q = 8) ∧ tc = .no ∧ al = false ∧ go.getD false = false) → ∀ e a0 h' tk' oL, TI.Caller h₀ L m oL → Heap.FlyingW h₀ (cenv :: l) e (.ref 224) a0 h' → Up [(L, oL)] h' → E (.ref e) { s with heap := h', toks := tk' }) :
 
  wpAny (model rw_ar0036_02.row.prog w) ((Fa dp un (some []) l).deeper cenv) (call (.ref 359) [v1, v2] [("size", vsz), ("alpha", .bool al), ("bitdepth", dv), ("palette", (.ref lp)), ("transparent", tv), ("background", bv), ("interlace", .int lc ul)]) Q E s := by
  refine writer_lD (vp := Value.none) F X0 N T Fs (fun _ h => nomatch h) hf hk hdp hun (fun _ h => h) (fun _ _ _ h => nomatch h) hz bx0 bx1 by0 by1 hg hdp2 hqn hq6 hqb htc hbc hlp hpa hpl hel hqs hbn (fun good x h' tk' nw frs2 l2 k tg rr vt vb ux uy ut uc u1 u2 hl et post c1 c2 ob ii _ _ _ F' N' => ?_) hraise
  subst et
  exact hret good x h' tk' nw l2 k hl ob ⟨rr, vt, vb, ux, uy, ut, uc, u1, u2, post, c1, c2, ii⟩ F' N'
theorem wcall_lG {dp un : Nat} {cenv : Env} {l : List Env} {h₀ : Heap} {L : Addr} {m : Str → Option Value} {news : Led} {s : Shared} {Q E : Value → Shared → Prop} {X Y lc : Int} {ok : Prop} {v1 v2 vsz vg tv bv dv : Value} {go : Option Bool} {al : Bool} {tc bc : Col} {qs : List Int} {ul : Tok} {lp : Addr} {ps : List Value} {np : Nat} {es : List (List Int)} {q : Int} (F : Fr h₀ L s.heap m) (X0 : (Mine.w.heap_1 w.params).In h₀) (N : News h₀ L s.heap news) (T : Top p loose mean mg mb h₀) (Fs : Frs l []) (hf : cenv.frame = some L) (hk : cenv.scope.kind = .function) (hdp : dp + 28 < recursionLimit) (hun : un + 400 < cLine) (hz : ∀ m : PySem.Str → Option Value, m "size" = some vsz → m "width" = some v1 → m "height" = some v2 → SizeIn news m X Y ok) (bx0 : -10000000000 < X) (bx1 : X < 10000000000) (by0 : -10000000000 < Y) (by1 : Y < 10000000000) (hg : GreyIs vg go) (hdp2 : DepIn news dv qs) (hqn : qs ≠ []) (hq6 : qs.length ≤ 6) (hqb : ∀ n ∈ qs, -10000000000 < n ∧ n < 10000000000) (htc : ColIs news tv tc) (hbc : ColIs news bv bc) (hlp : (lp, W.listOf ps.toArray np) ∈ news) (hpa : PalAre news ps es) (hpl : ps.length ≤ 300) (hel : ∀ e ∈ es, e.length ≤ 8) (hqs : qs = [q]) (hbn : bc = .no) (hret : (ok ∧ 0 < X ∧ 0 < Y ∧ X ≤ 2147483647 ∧ Y ≤ 2147483647 ∧ (al = true → tc = .no) ∧ (∀ q ∈ qs, 1 ≤ q ∧ q ≤ 16)) ∧ PalGood es ∧ (q = 1 ∨ q = 2 ∨ q = 4 ∨ q = 8) ∧ tc = .no ∧ al = false ∧ go.getD false = false → ∀ x h' tk' nw l2 k, (l2, W.listOf ps.toArray k) ∈ nw → (∀ p ∈ news, p ∈ nw) → Made w nw x X Y lc false al true [q] q 1 1 tc bc (.ref l2) → Fr h₀ L h' m → News h₀ L h' nw → Q (.ref x) { s with heap := h', toks := tk' }) (hraise : ¬ ((ok ∧ 0 < X ∧ 0 < Y ∧ X ≤ 2147483647 ∧ Y ≤ 2147483647 ∧ (al = true → tc = .no) ∧ (∀ q ∈ qs, 1 ≤ q ∧ q ≤ 16)) ∧ PalGood es ∧ (q = 1 ∨ q = 2 ∨ q = 4 ∨ q = 8) ∧ tc = .no ∧ al = false ∧ go.getD false = false) → ∀ e a0 h' tk' oL, TI.Caller h₀ L m oL → Heap.FlyingW h₀ (cenv :: l) e (.ref 224) a0 h' → Up [(L, oL)] h' → E (.ref e) { s with heap := h', toks := tk' }) :
 
  wpAny (model rw_ar0036_02.row.prog w) ((Fa dp un (some []) l).deeper cenv) (call (.ref 359) [v1, v2] [("size", vsz), ("greyscale", vg), ("alpha", .bool al), ("bitdepth", dv), ("palette", (.ref lp)), ("transparent", tv), ("background", bv), ("interlace", .int lc ul)]) Q E s := by
  refine writer_lG (vp := Value.none) F X0 N T Fs (fun _ h => nomatch h) hf hk hdp hun (fun _ h => h) (fun _ _ _ h => nomatch h) hz bx0 bx1 by0 by1 hg hdp2 hqn hq6 hqb htc hbc hlp hpa hpl hel hqs hbn (fun good x h' tk' nw frs2 l2 k tg rr vt vb ux uy ut uc u1 u2 hl et post c1 c2 ob ii _ _ _ F' N' => ?_) hraise
  subst et
  exact hret good x h' tk' nw l2 k hl ob ⟨rr, vt, vb, ux, uy, ut, uc, u1, u2, post, c1, c2, ii⟩ F' N'
end Mine
end
section
namespace Mine
theorem fm1 (n : Int) : n.fmod 1 = 0 := by rw [Int.fmod_eq_emod_of_nonneg _ (by decide)]; omega
theorem fm3 (n : Int) : n.fmod 3 = 0 ∨ n.fmod 3 = 1 ∨ n.fmod 3 = 2 := by rw [Int.fmod_eq_emod_of_nonneg _ (by decide)]; omega
theorem fm_nn {n k : Int} (hk : 0 < k) : 0 ≤ n.fmod k := by rw [Int.fmod_eq_emod_of_nonneg _ (Int.le_of_lt hk)]; exact Int.emod_nonneg _ (by omega)
def ColSpec (form : Int) (g : Bool) (c : Col) : Prop := (c = .no ↔ form < 2) ∧ ColForm g c ∧ (ColGood g c ↔ form ≠ 3 ∧ form ≠ 4) ∧ ((∃ n, c = .num n) ↔ form = 5 ∧ g = true)
theorem cs_no {form : Int} {g : Bool} (h : form < 2) : ColSpec form g .no := ⟨⟨fun _ => h, fun _ => rfl⟩, trivial, ⟨fun _ => ⟨by omega, by omega⟩, fun _ => trivial⟩, ⟨fun ⟨_, e⟩ => (nomatch e), fun h' => by omega⟩⟩
theorem cs_num {form n : Int} {g : Bool} (h : form = 5) (hg : g = true) (hn : 0 ≤ n) : ColSpec form g (.num n) := ⟨⟨(nomatch ·), fun _ => by omega⟩, ⟨hg, hn⟩, ⟨fun _ => ⟨by omega, by omega⟩, fun _ => trivial⟩, ⟨fun _ => ⟨h, hg⟩, fun _ => ⟨_, rfl⟩⟩⟩
theorem cs_tup {form : Int} {g : Bool} {qs : List Int} (h2 : ¬ form < 2) (k : (g = true ∧ form ≠ 5) ∨ g = false) (hl : form ≠ 3 → qs.length = if g = true then 1 else 3) (hl3 : form = 3 → qs.length = if g = true then 2 else 4) (h4 : form = 4 → ∃ q ∈ qs, q < 0) (hp : form ≠ 4 → ∀ q ∈ qs, 0 ≤ q) : ColSpec form g (.tup qs) := by
  refine ⟨⟨(nomatch ·), fun _ => by omega⟩, ?_, ⟨fun ab => ⟨fun e => ?_, fun e => ?_⟩, fun ab => ⟨hl ab.1, hp ab.2⟩⟩, ⟨fun ⟨_, e⟩ => (nomatch e), fun ab => ?_⟩⟩
  · show if g = true then _ else _
    by_cases e : form = 3
    · have := hl3 e
      cases g <;> simp_all
    · have := hl e
      cases g <;> simp_all
  · have := hl3 e
    have a := ab.1
    rw [this] at a
    cases g <;> simp at a
  · obtain ⟨q, hq, hn⟩ := h4 e
    have := ab.2 q hq
    omega
  · rcases k with k | k
    · exact absurd ab.1 k.2
    · have b := ab.2
      rw [k] at b; cases b
end Mine
local macro_rules | `(tactic| walk_at $s:str) => Mine.hand "i66 " s
local macro_rules | `(tactic| walk_at "p") => Mine.pad
theorem Mine.k20 : True := by
 k_with "i66 setItem ref int" => ((k_here; (first | (exfalso; omega) | ((first | rw [Mine.fm1] | (rcases Mine.fm3 number with h93 | h93 | h93 <;> rw [h93]));  (try dsimp only)))))
 trivial
theorem Mine.law_col {w : World} {p : Program} {loose : List Str} {mean : ExcName → Option Value} {mg mb : Str → Option Value}
 {dp un : Nat} {nm : Str} {fa : Addr} {cd : Value} {l : List Env} {h₀ : Heap} {L : Addr} {m : Str → Option Value} {news frs : Mine.Led} {s : Shared} {Q E : Value → Shared → Prop}
 {form number top : Int} {t1 t2 t3 : Tok} {grey : Bool} (H : Mine.Here w h₀ L s.heap m news frs l p loose mean mg mb (Mine.fnScope 34) dp un 10)
 (hn : 0 ≤ number) (hn2 : number ≤ 400000) (ht : 2 ≤ top) (ht2 : top ≤ 1000000) (hret : ∀ v c h' tk' nw, (∀ p ∈ news, p ∈ nw) → Mine.ColIs nw v c → Mine.ColSpec form grey c → Fr h₀ L h' m → News h₀ L h' nw → Q v { s with heap := h', toks := tk' }) :
 wpAny (model rw_ar0036_02.row.prog w) ((Mine.Fa dp un (some []) l).deeper (envOfC nm (Mine.fnScope 34) L fa cd)) (call (.ref 428) [.int form t1, .int number t2, .bool grey, .int top t3]) Q E s := by
 obtain ⟨F, X, N, T, Fs, sub, hk, hdp, hun⟩ := H
 walk_at "mine lit"
 w_on
 w_strict (
  revert X
  k_fill
  intro X
  (refine wpAny_call ?_)
  with_unfolding_all refine' Mine.enterF (name := "_law_colour") (qual := "_law_colour") (body := Mine.fnStmts 33) (scope := Mine.fnScope 33) (binds := [("form", Value.int form t1), ("number", Value.int number t2), ("grey", Value.bool grey), ("top", Value.int top t3)]) F X N T Fs sub ?kA ?kf ?kke ?k6 ?k7 ?k8 ?k9 ?kB ?_ ?c2 ?c3 ?c4 ?c5
  case kA => exact rfl
  case kf => exact rfl
  case kke => exact hk
  case k6 => k_is
  case k7 => k_is
  case k8 => first | ktr_room | k_room
  case k9 => first | exact BindsTo.of_eq rfl
  case kB => exact locs rfl
  case c2 => exact rfl
  case c3 => exact rfl
  case c4 => exact rfl
  case c5 => decide +kernel
  k_whole
  intro oL' L' h' C' Fs' sub' lt' up' ne' F' N'
  (try dsimp only)
  (try k_lt lt')
  (repeat (conv in Mine.fnStmts _ => whnf))
  walk_at "mine lit"
  k_steps)
 
 all_goals first | exact (Str.ofString "") | exact (0 : Nat) | exact Value.none | skip
 all_goals (have q1 := Mine.fm_nn (n := number) (k := top) (by omega); have q2 := Mine.fm_nn (n := number + 1) (k := top) (by omega))
 all_goals (refine' hret _ _ _ _ _ ?b ?ci ?sp ?F ?N; (case F => assumption); (case N => assumption); (case b => walk_at "mine sub2"); (case ci => first | exact .no | exact .num _ _ | (refine' Mine.ColIs.tup ?hm ?hi; (case hm => first | exact List.Mem.head _ | exact List.Mem.tail _ (List.Mem.head _)); (case hi => first | exact .cons _ _ .nil | exact .cons _ _ (.cons _ _ .nil) | exact .cons _ _ (.cons _ _ (.cons _ _ .nil)) | exact .cons _ _ (.cons _ _ (.cons _ _ (.cons _ _ .nil))))) | (fail "ci")); (case sp => first | exact Mine.cs_no (by assumption) | exact Mine.cs_num (by assumption) (by assumption) (by assumption) | exact Mine.cs_tup (by assumption) (by first | exact .inl ⟨by assumption, by assumption⟩ | exact .inr (by assumption)) (by intro hq; first | (exfalso; omega) | (rw [if_pos (by assumption)]; rfl) | (rw [if_neg (by rw [‹grey = false›]; exact Bool.false_ne_true)]; rfl)) (by intro hq; first | (exfalso; omega) | (rw [if_pos (by assumption)]; rfl) | (rw [if_neg (by rw [‹grey = false›]; exact Bool.false_ne_true)]; rfl)) (by intro hq; first | (exfalso; omega) | exact ⟨_, .head _, by omega⟩ | exact ⟨_, .tail _ (.head _), by omega⟩ | exact ⟨_, .tail _ (.tail _ (.head _)), by omega⟩) (by intro hq; first | (exfalso; omega) | (intro q hm; simp only [List.mem_cons, List.not_mem_nil, or_false] at hm; first | (rcases hm with rfl | rfl | rfl | rfl <;> omega) | (rcases hm with rfl | rfl | rfl <;> omega) | (rcases hm with rfl | rfl <;> omega) | (subst hm; omega)))))
end
section
namespace Mine
theorem depOf_len {dv pl : Int} : (depOf dv pl).length = pl.toNat := by
  unfold depOf
  split
  · rw [List.length_map, rangeKs_length]
  · rw [List.length_replicate]
theorem depOf_bd {dv pl : Int} : ∀ q ∈ depOf dv pl, -1 ≤ q ∧ q ≤ 17 := fun q hq => by
  unfold depOf at hq
  split at hq
  · obtain ⟨k, _, rfl⟩ := List.mem_map.mp hq
    have := fmB (z := dv.fdiv 5 + 3 * k) (k := 19) (by decide)
    omega
  · have e := List.eq_of_mem_replicate hq
    have := fmB (z := dv) (k := 19) (by decide)
    omega
theorem depOf_rep {dv pl : Int} (h : dv.fmod 5 ≠ 0) : depOf dv pl = List.replicate pl.toNat (dv.fmod 19 - 1) := by unfold depOf; rw [if_neg h]
theorem ints_one {vs : List Value} {ns : List Int} (h : IntsAre vs ns) (hl : 0 < ns.length) : ∃ q u vs' ns', vs = .int q u :: vs' ∧ ns = q :: ns' ∧ IntsAre vs' ns' := by
  cases h with
  | nil => simp at hl
  | cons n t r => exact ⟨n, t, _, _, rfl, rfl, r⟩
theorem spread_id {n : Nat} {qs qs' : List Int} (hl : qs.length = n) (h : Spread n qs qs') : qs' = qs := by
  by_cases e : qs.length = 1
  · have := h.1 e
    rw [this, ← hl, e]
    match qs, e with
    | [q], _ => rfl
  · exact h.2 e
theorem spread_rep {n : Nat} {q : Int} {qs' : List Int} (h : Spread n [q] qs') : qs' = List.replicate n q := h.1 rfl
theorem least_tab : ∀ n, n < 17 → 1 ≤ n → ∀ f ∈ ([1, 2, 4, 8, 16] : List Int), ((n : Nat) : Int) ≤ f → (∀ a ∈ ([1, 2, 4, 8, 16] : List Int), ((n : Nat) : Int) ≤ a → f ≤ a) → f = if (((n : Nat) : Int) = 1 ∨ ((n : Nat) : Int) = 2 ∨ ((n : Nat) : Int) = 4 ∨ ((n : Nat) : Int) = 8 ∨ ((n : Nat) : Int) = 16) then ((n : Nat) : Int) else if 8 < ((n : Nat) : Int) then 16 else if ((n : Nat) : Int) = 3 then 4 else 8 := by decide +kernel
theorem least {q f : Int} (h1 : 1 ≤ q) (h2 : q ≤ 16) (hm : f ∈ [1, 2, 4, 8, 16].filter fun v => decide (q ≤ v)) (hl : ∀ a ∈ [1, 2, 4, 8, 16].filter fun v => decide (q ≤ v), f ≤ a) : f = fileN true false [q] := by
  rw [List.mem_filter] at hm
  obtain ⟨n, rfl⟩ := Int.eq_ofNat_of_zero_le (Int.le_trans (by decide) h1)
  unfold fileN
  rw [if_pos ⟨rfl, rfl⟩]
  exact least_tab n (Int.ofNat_lt.mp (Int.lt_of_le_of_lt h2 (by decide))) (Int.ofNat_le.mp h1) f hm.1 (of_decide_eq_true hm.2) fun a ha h => hl a (List.mem_filter.mpr ⟨ha, decide_eq_true h⟩)
theorem fileN_c {g al : Bool} {qs : List Int} (h : ¬ (g = true ∧ al = false)) : fileN g al qs = if ∃ q ∈ qs, 8 < q then 16 else 8 := by unfold fileN; rw [if_neg h]
theorem post_no {qs : List Int} {f : Int} {rr : Value} {nw : Led} (h : CbrPost qs f rr nw) (ha : ∀ q ∈ qs, q = f) : rr = .none := by
  rcases h with h | ⟨⟨q, hq, hne⟩, _⟩
  · exact h.2
  · exact absurd (ha q hq) hne
theorem post_some {qs : List Int} {f : Int} {rr : Value} {nw : Led} (h : CbrPost qs f rr nw) (ha : ∃ q ∈ qs, q ≠ f) : ∃ rl, rr = .ref rl ∧ DatIn nw (.ref rl) (Dat.list (qs.map fun q => Dat.tuple [.int q, .int f])) := by
  rcases h with h | ⟨_, rl, e, d⟩
  · obtain ⟨q, hq, hne⟩ := ha
    exact absurd (h.1 q hq) hne
  · exact ⟨rl, e, d⟩
theorem pairs_dat {nw : Led} {P : Addr} {qs : List Int} {f : Int} (h : PalList nw P (qs.map fun q => [q, f])) : DatIn nw (.ref P) (Dat.list (qs.map fun q => Dat.tuple [.int q, .int f])) := by
  obtain ⟨ps, k, hm, hp⟩ := h
  have := pal_dat hp
  rw [List.map_map] at this
  exact .list hm this
theorem pairs_ok (qs : List Int) (f : Int) : kqdOk 8 (Dat.list (qs.map fun q => Dat.tuple [.int q, .int f])) = true := by simp [kqdOk]
theorem palette_dat {nw : Led} {P : Addr} {ps : List Value} {k : Nat} {es : List (List Int)} (hm : (P, W.listOf ps.toArray k) ∈ nw) (h : PalAre nw ps es) : DatIn nw (.ref P) (Dat.list (es.map fun e => Dat.tuple (e.map Dat.int))) := .list hm (pal_dat h)
theorem palette_ok (es : List (List Int)) : kqdOk 8 (Dat.list (es.map fun e => Dat.tuple (e.map Dat.int))) = true := by simp [kqdOk]
theorem col_no {c : Col} {form : Int} {g : Bool} (h : ColSpec form g c) : c = .no ↔ form < 2 := h.1
end Mine
end
section
theorem Mine.k21 : True := by
 k_with "s mine see" => ((repeat (first | assumption | exact if_pos rfl | refine (if_neg (by decide)).trans ?_ | exact Mine.look_hit | refine Mine.look_miss (by decide) ?_)))
 trivial
namespace Mine
structure Vars (m : Str → Option Value) (ls : Addr) (md X Y sd nb fm : Int) (al g : Bool) (pl : Int) : Prop where
  script : m "script" = some (.ref ls)
  mode : ∃ t, m "mode" = some (.int md t)
  wide : ∃ t, m "wide" = some (.int X t)
  high : ∃ t, m "high" = some (.int Y t)
  said : ∃ t, m "said" = some (.int sd t)
  alpha : m "alpha" = some (.bool al)
  number : ∃ t, m "number" = some (.int nb t)
  form : ∃ t, m "form" = some (.int fm t)
  grey : m "grey" = some (.bool g)
  planes : ∃ t, m "planes" = some (.int pl t)
theorem Vars.keep {m m' : Str → Option Value} {ls : Addr} {md X Y sd nb fm : Int} {al g : Bool} {pl : Int} (V : Vars m ls md X Y sd nb fm al g pl) (h : ∀ y ∈ (["script", "mode", "wide", "high", "said", "alpha", "number", "form", "grey", "planes"] : List PySem.Str), m' y = m y) : Vars m' ls md X Y sd nb fm al g pl := by
  refine ⟨?_, ?_, ?_, ?_, ?_, ?_, ?_, ?_, ?_, ?_⟩
  · rw [h _ (by simp)]; exact V.script
  · rw [h _ (by simp)]; exact V.mode
  · rw [h _ (by simp)]; exact V.wide
  · rw [h _ (by simp)]; exact V.high
  · rw [h _ (by simp)]; exact V.said
  · rw [h _ (by simp)]; exact V.alpha
  · rw [h _ (by simp)]; exact V.number
  · rw [h _ (by simp)]; exact V.form
  · rw [h _ (by simp)]; exact V.grey
  · rw [h _ (by simp)]; exact V.planes
section
variable {w : World} {p : Program} {loose : List Str} {mean : ExcName → Option Value} {mg mb : Str → Option Value} {dp un : Nat} {nm : Str} {fa : Addr} {cd : Value} {h₀ : Heap} {L : Addr} {m : Str → Option Value} {news : Led} {s : Shared} {Q : Flow → Shared → Prop} {R : Result → Shared → Prop} {rest : List Stmt}
theorem law_planes {fm : Int} {t1 : Tok} {g al : Bool} (H : Here w h₀ L s.heap m news [] [] p loose mean mg mb (fnScope 34) dp un 40) (v1 : m "form" = some (.int fm t1)) (v2 : m "grey" = some (.bool g)) (v3 : m "alpha" = some (.bool al))
    (hret : ∀ v t h' tk', (v = if 1 < fm then 1 else (if g then 1 else 3) + (if al then 1 else 0)) → Fr h₀ L h' (fun y => if y = "planes" then some (.int v t) else m y) → News h₀ L h' news → Q .next { s with heap := h', toks := tk' }) :
    wpAny (model rw_ar0036_02.row.prog w) ((Fa dp un (some []) []).deeper (envOfC nm (fnScope 34) L fa cd)) (exec (fnAt 34 9) (envOfC nm (fnScope 34) L fa cd)) Q (Out w ((Fa dp un (some []) []).deeper (envOfC nm (fnScope 34) L fa cd)) (envOfC nm (fnScope 34) L fa cd) R) s := by
  cases g <;> cases al
  · exact law_s9ff H v1 v2 v3 hret
  · exact law_s9ft H v1 v2 v3 hret
  · exact law_s9tf H v1 v2 v3 hret
  · exact law_s9tt H v1 v2 v3 hret
theorem law_1 {ls : Addr} {its : List Value} {zs : List Int} {o1 o2 o3 : Obj} {c1 c2 c3 : Option Value} (H : Here w h₀ L s.heap m [(L + 1 + 1 + 1, o3), (L + 1 + 1, o2), (L + 1, o1)] [] [] p loose mean mg mb (fnScope 34) dp un 40) (hl : h₀.IsList ls its.toArray) (hi : IntsAre its zs) (hsz : its.toArray.size ≤ 63) (hsy : its.length ≤ 63) (hsx : zs.length ≤ 63)  (v0 : m "script" = some (.ref ls))
    (e1 : o1.data = .cell c1) (e2 : o2.data = .cell c2) (e3 : o3.data = .cell c3)
    (next : ∀ md X Y sd nb fm al g pl dv td D dits k oc1 oc2 m' h' tk' nw, 0 ≤ md → md < 5 → -3 ≤ X → X ≤ 4294967292 → -3 ≤ Y → Y ≤ 4294967292 → 0 ≤ sd → sd < 3 → 0 ≤ nb → nb < 70000 → 0 ≤ fm → fm < 9 → (g = true ↔ sd = 1 ∨ (sd = 0 ∧ fm < 2)) → (pl = if 1 < fm then 1 else (if g then 1 else 3) + (if al then 1 else 0)) →
      Vars m' ls md X Y sd nb fm al g pl → IntsAre dits (depOf dv pl) → (L + 1 + 1 + 1, o3) ∈ nw → (L + 1, oc1) ∈ nw → oc1.data = .cell (some (.int dv td)) → (L + 1 + 1, oc2) ∈ nw → oc2.data = .cell (some (.ref D)) → (D, W.listOf dits.toArray k) ∈ nw → Here w h₀ L h' m' nw [] [] p loose mean mg mb (fnScope 34) dp un 40 → wpAny (model rw_ar0036_02.row.prog w) ((Fa dp un (some []) []).deeper (envOfC nm (fnScope 34) L fa cd)) (execs (rest) (envOfC nm (fnScope 34) L fa cd)) Q (Out w ((Fa dp un (some []) []).deeper (envOfC nm (fnScope 34) L fa cd)) (envOfC nm (fnScope 34) L fa cd) R) { s with heap := h', toks := tk' }) :
    wpAny (model rw_ar0036_02.row.prog w) ((Fa dp un (some []) []).deeper (envOfC nm (fnScope 34) L fa cd)) (execs (fnAt 34 0 :: fnAt 34 1 :: fnAt 34 2 :: fnAt 34 3 :: fnAt 34 4 :: fnAt 34 5 :: fnAt 34 6 :: fnAt 34 7 :: fnAt 34 8 :: fnAt 34 9 :: fnAt 34 10 :: rest) (envOfC nm (fnScope 34) L fa cd)) Q (Out w ((Fa dp un (some []) []).deeper (envOfC nm (fnScope 34) L fa cd)) (envOfC nm (fnScope 34) L fa cd) R) s := by
  have H0 := H
  refine wpAny_execs_cons (law_s0 H0 hl hi hsz hsy hsx v0 fun md t0 h1 tk1 b01 b02 F1 N1 => ?_)
  have H1 := H0.now F1 N1
  refine wpAny_execs_cons (law_s1 (s := { s with heap := h1, toks := tk1 }) (B := 4294967296) H1 hl hi hsz hsy hsx (by walk_at "mine see") rfl fun X t1 h2 tk2 b11 b12 F2 N2 => ?_)
  have H2 := H1.now F2 N2
  refine wpAny_execs_cons (law_s2 (s := { s with heap := h2, toks := tk2 }) (B := 4294967296) H2 hl hi hsz hsy hsx (by walk_at "mine see") rfl fun Y t2 h3 tk3 b21 b22 F3 N3 => ?_)
  have H3 := H2.now F3 N3
  refine wpAny_execs_cons (law_s3 (s := { s with heap := h3, toks := tk3 }) H3 hl hi hsz hsy hsx (by walk_at "mine see") fun sd t3 h4 tk4 b31 b32 F4 N4 => ?_)
  have H4 := H3.now F4 N4
  refine wpAny_execs_cons (law_s4 (s := { s with heap := h4, toks := tk4 }) H4 hl hi hsz hsy hsx (by walk_at "mine see") fun al h5 tk5 F5 N5 => ?_)
  have N5' : News h₀ L h5 ((L + 1, o1) :: [(L + 1 + 1 + 1, o3), (L + 1 + 1, o2)]) := fun q hq => N5 q (by simp only [List.mem_cons, List.not_mem_nil, or_false] at hq ⊢; rcases hq with h | h | h <;> simp [h])
  have H5 := H4.next F5 N5' (fun _ h => nomatch h)
  refine wpAny_execs_cons (law_s5 (s := { s with heap := h5, toks := tk5 }) H5 hl hi hsz hsy hsx (by walk_at "mine see") e1 (by intro q hq; simp only [List.mem_cons, List.not_mem_nil, or_false] at hq; rcases hq with h | h <;> (rw [h]; show ¬ (_ : Nat) = _; omega)) fun oc1 dv td h6 tk6 d1 F6 N6 => ?_)
  have H6 := H5.next F6 N6 (fun _ h => nomatch h)
  refine wpAny_execs_cons (law_s6 (s := { s with heap := h6, toks := tk6 }) H6 hl hi hsz hsy hsx (by walk_at "mine see") fun nb t6 h7 tk7 b61 b62 F7 N7 => ?_)
  have H7 := H6.now F7 N7
  refine wpAny_execs_cons (law_s7 (s := { s with heap := h7, toks := tk7 }) H7 hl hi hsz hsy hsx (by walk_at "mine see") fun fm t7 h8 tk8 b71 b72 F8 N8 => ?_)
  have H8 := H7.now F8 N8
  refine wpAny_execs_cons (law_s8 (sd := sd) (fm := fm) (s := { s with heap := h8, toks := tk8 }) H8 (t1 := t3) (t2 := t7) (by walk_at "mine see") (by walk_at "mine see") fun g h9 tk9 b8 F9 N9 => ?_)
  have H9 := H8.now F9 N9
  refine wpAny_execs_cons (law_planes (fm := fm) (g := g) (al := al) (s := { s with heap := h9, toks := tk9 }) H9 (t1 := t7) (by walk_at "mine see") (by walk_at "mine see") (by walk_at "mine see") fun pl t9 h10 tk10 b9 F10 N10 => ?_)
  have N10' : News h₀ L h10 ((L + 1, oc1) :: (L + 1 + 1, o2) :: [(L + 1 + 1 + 1, o3)]) := fun q hq => N10 q (by simp only [List.mem_cons, List.not_mem_nil, or_false] at hq ⊢; rcases hq with h | h | h <;> simp [h])
  have H10 := H9.next F10 N10' (fun _ h => nomatch h)
  have hp : 1 ≤ pl ∧ pl ≤ 4 := by rw [b9]; split <;> cases g <;> cases al <;> decide
  refine wpAny_execs_cons (law_s10 (pl := pl) (s := { s with heap := h10, toks := tk10 }) H10 (t1 := t9) d1 e2 (by intro q hq; simp only [List.mem_cons, List.not_mem_nil, or_false] at hq; rw [hq]; show ¬ (_ : Nat) = _; omega) (by intro q hq; simp only [List.mem_cons, List.not_mem_nil, or_false] at hq; rw [hq]; show ¬ (_ : Nat) = _; omega) (by walk_at "mine see") hp.1 hp.2 fun D dits oc2 k h11 tk11 nw sb hc1 hD hdi hne d2 F11 N11 => ?_)
  refine next md X Y sd nb fm al g pl dv td D dits k oc1 oc2 _ h11 tk11 _ b01 b02 b11 b12 b21 b22 b31 b32 b61 b62 b71 b72 b8 b9 ?_ hdi (.tail _ (sb _ (.head _))) (.tail _ hc1) d1 (.head _) d2 (.tail _ hD) (H10.next F11 N11 (fun _ h => nomatch h))
  exact ⟨by walk_at "mine see", ⟨t0, by walk_at "mine see"⟩, ⟨t1, by walk_at "mine see"⟩, ⟨t2, by walk_at "mine see"⟩, ⟨t3, by walk_at "mine see"⟩, by walk_at "mine see", ⟨t6, by walk_at "mine see"⟩, ⟨t7, by walk_at "mine see"⟩, by walk_at "mine see", ⟨t9, by walk_at "mine see"⟩⟩
end
end Mine
end
section
variable {w : World} {p : Program} {loose : List Str} {mean : ExcName → Option Value} {mg mb : Str → Option Value}
variable {dp un : Nat} {nm : Str} {fa : Addr} {cd : Value} {l : List Env} {h₀ : Heap} {L : Addr} {m : Str → Option Value} {news frs : Mine.Led} {s : Shared} {Q : Flow → Shared → Prop} {R : Result → Shared → Prop}
local macro_rules | `(tactic| walk_at $s:str) => Mine.hand "i69 " s
theorem Mine.k22 : True := by
 k_with "i69 binaryOp Pow int int" => ((k_here; (with_reducible show wpAny _ _ (binaryOp _ _ (Value.int 32 _)) _ _ _); k_dflt (refine' Mine.pow32 ?hB ?_; (case hB => assumption))))
 k_with "i69 binaryOp Pow int int" => ((k_here; (with_reducible show wpAny _ _ (binaryOp _ _ (Value.int 31 _)) _ _ _); k_dflt (refine' Mine.pow31 ?hB ?_; (case hB => assumption))))
 k_with "i69 call builtin:min" => ((k_here; (with_reducible show wpAny _ _ (call (Value.builtin _) [Value.ref _]) _ _ _); k_dflt (refine' Mine.min_lst ?h ?F ?N ?m ?i ?n ?_; (case F => k_asm); (case N => k_asm); (case h => rfl); (case m => assumption); (case i => assumption); (case n => assumption)); intro h' M' t' tk' F' N' a' b'; have emin' := Mine.ex_min a' b'))
 k_with "i69 call builtin:max" => ((k_here; (with_reducible show wpAny _ _ (call (Value.builtin _) [Value.ref _]) _ _ _); k_dflt (refine' Mine.max_lst ?h ?F ?N ?m ?i ?n ?_; (case F => k_asm); (case N => k_asm); (case h => rfl); (case m => assumption); (case i => assumption); (case n => assumption)); intro h' M' t' tk' F' N' a' b'; have emax' := Mine.ex_max a' b'))
 k_with "i69 binaryOp Pow int int" => ((k_here; (with_reducible show wpAny _ _ (binaryOp _ (Value.int _ _) (Value.int (ite _ _ _) _)) _ _ _); k_dflt (refine' Mine.pow_top ?y1 ?y2 ?_; (case y1 => split <;> omega); (case y2 => have q9 := hqb M' a'; split <;> omega)); intro v' p1' p2'))
 trivial
theorem Mine.law_s15
 {oc2 : Obj} {D : Addr} {its : List Value} {qs : List Int} {k : Nat}  (H : Mine.Here w h₀ L s.heap m news frs l p loose mean mg mb (Mine.fnScope 34) dp un 40)
 (hc2 : (L + 1 + 1, oc2) ∈ news) (hoc2 : oc2.data = .cell (some (.ref D))) (hD : (D, W.listOf its.toArray k) ∈ news) (hdi : IntsAre its qs) (hil : its.length ≤ 4) (hi0 : 0 < its.length) (hql : qs.length ≤ 4) (hq0 : 0 < qs.length) (hqb : ∀ q ∈ qs, -1 ≤ q ∧ q ≤ 17) (hret : ∀ v t h' tk', 2 ≤ v → v ≤ 1000000 → Fr h₀ L h' (fun y => if y = "top" then some (.int v t) else m y) → News h₀ L h' news → Q .next { s with heap := h', toks := tk' }) :
 wpAny (model rw_ar0036_02.row.prog w) ((Mine.Fa dp un (some []) l).deeper (envOfC nm (Mine.fnScope 34) L fa cd)) (exec (Mine.fnAt 34 15) (envOfC nm (Mine.fnScope 34) L fa cd)) Q (Mine.Out w ((Mine.Fa dp un (some []) l).deeper (envOfC nm (Mine.fnScope 34) L fa cd)) (envOfC nm (Mine.fnScope 34) L fa cd) R) s := by
 obtain ⟨F, X, N, T, Fs, sub, hk, hdp, hun⟩ := H
 (conv => arg 3; arg 1; whnf)
 walk_at "mine lit"
 w_on
 w_strict (
  revert X
  k_fill
  intro X
  
  k_steps)
 all_goals first | exact (Str.ofString "") | exact (0 : Nat) | exact Value.none | skip
 all_goals (refine' hret _ _ _ _ ?y0 ?y1 ?F ?N; (case F => assumption); (case N => first | assumption | exact Mine.news_drop (by assumption) | exact Mine.news_drop (Mine.news_drop (by assumption))); (case y0 => assumption); (case y1 => assumption))
theorem Mine.s20_aux {X Y md B : Int} (h1 : ¬ 2 < md) (h2 : ¬ min X Y ≤ 0) : decide (B ≤ max X Y) = true ↔ 2 < md ∨ X ≤ 0 ∨ Y ≤ 0 ∨ B ≤ X ∨ B ≤ Y := by
  refine decide_eq_true_iff.trans ⟨fun h => .inr (.inr (.inr ?_)), ?_⟩
  · rcases Int.le_total Y X with k | k
    · exact .inl (Int.max_eq_left k ▸ h)
    · exact .inr (Int.max_eq_right k ▸ h)
  · rintro (h | h | h | h | h)
    · exact absurd h h1
    · exact absurd (Int.le_trans (Int.min_le_left X Y) h) h2
    · exact absurd (Int.le_trans (Int.min_le_right X Y) h) h2
    · exact Int.le_trans h (Int.le_max_left X Y)
    · exact Int.le_trans h (Int.le_max_right X Y)
theorem Mine.law_s20
 {md X Y B : Int} {t1 t2 t3 : Tok}  (H : Mine.Here w h₀ L s.heap m news frs l p loose mean mg mb (Mine.fnScope 34) dp un 40)
 (hB : B = 2147483648) (v1 : m "mode" = some (.int md t1)) (v2 : m "wide" = some (.int X t2)) (v3 : m "high" = some (.int Y t3)) (hret : ∀ b h' tk', (b = true ↔ 2 < md ∨ X ≤ 0 ∨ Y ≤ 0 ∨ B ≤ X ∨ B ≤ Y) → Fr h₀ L h' (fun y => if y = "refused" then some (.bool b) else m y) → News h₀ L h' news → Q .next { s with heap := h', toks := tk' }) :
 wpAny (model rw_ar0036_02.row.prog w) ((Mine.Fa dp un (some []) l).deeper (envOfC nm (Mine.fnScope 34) L fa cd)) (exec (Mine.fnAt 34 20) (envOfC nm (Mine.fnScope 34) L fa cd)) Q (Mine.Out w ((Mine.Fa dp un (some []) l).deeper (envOfC nm (Mine.fnScope 34) L fa cd)) (envOfC nm (Mine.fnScope 34) L fa cd) R) s := by
 obtain ⟨F, X, N, T, Fs, sub, hk, hdp, hun⟩ := H
 (conv => arg 3; arg 1; whnf)
 walk_at "mine lit"
 w_on
 w_strict (
  revert X
  k_fill
  intro X
  
  k_steps)
 all_goals first | exact (Str.ofString "") | exact (0 : Nat) | exact Value.none | skip
 all_goals (refine' hret _ _ _ ?y0 ?F ?N; (case F => assumption); (case N => first | assumption | exact Mine.news_drop (by assumption) | exact Mine.news_drop (Mine.news_drop (by assumption))); (case y0 => clear hret; (repeat (with_reducible rename Fr _ _ _ _ => f9; clear f9)); (repeat (with_reducible rename News _ _ _ _ => f9; clear f9)); (try simp only [Mine.ite_min, Mine.ite_max, Mine.ite_max2] at *); (try simp only [emin', emax']); first | exact Mine.s20_aux (by assumption) (by assumption) | omega | (simp only [decide_eq_true_eq] at *; omega) | (simp_all; done) | (simp_all; omega) | (fail "ar")))
theorem Mine.law_s21n
 {oc2 : Obj} {D : Addr} {its : List Value} {qs : List Int} {k : Nat} {rf al : Bool}  (H : Mine.Here w h₀ L s.heap m news frs l p loose mean mg mb (Mine.fnScope 34) dp un 40)
 (hc2 : (L + 1 + 1, oc2) ∈ news) (hoc2 : oc2.data = .cell (some (.ref D))) (hD : (D, W.listOf its.toArray k) ∈ news) (hdi : IntsAre its qs) (hil : its.length ≤ 4) (hi0 : 0 < its.length) (hql : qs.length ≤ 4) (hq0 : 0 < qs.length) (hqb : ∀ q ∈ qs, -1 ≤ q ∧ q ≤ 17) (v1 : m "refused" = some (.bool rf)) (v2 : m "alpha" = some (.bool al)) (v3 : m "key" = some (.none)) (hret : ∀ b h' tk', (b = true ↔ rf = true ∨ (∃ q ∈ qs, q < 1) ∨ (∃ q ∈ qs, 16 < q) ∨ (al = true ∧ False)) → Fr h₀ L h' (fun y => if y = "refused" then some (.bool b) else m y) → News h₀ L h' news → Q .next { s with heap := h', toks := tk' }) :
 wpAny (model rw_ar0036_02.row.prog w) ((Mine.Fa dp un (some []) l).deeper (envOfC nm (Mine.fnScope 34) L fa cd)) (exec (Mine.fnAt 34 21) (envOfC nm (Mine.fnScope 34) L fa cd)) Q (Mine.Out w ((Mine.Fa dp un (some []) l).deeper (envOfC nm (Mine.fnScope 34) L fa cd)) (envOfC nm (Mine.fnScope 34) L fa cd) R) s := by
 obtain ⟨F, X, N, T, Fs, sub, hk, hdp, hun⟩ := H
 (conv => arg 3; arg 1; whnf)
 walk_at "mine lit"
 w_on
 w_strict (
  revert X
  k_fill
  intro X
  
  k_steps)
 all_goals first | exact (Str.ofString "") | exact (0 : Nat) | exact Value.none | skip
 all_goals (refine' hret _ _ _ ?y0 ?F ?N; (case F => assumption); (case N => first | assumption | exact Mine.news_drop (by assumption) | exact Mine.news_drop (Mine.news_drop (by assumption))); (case y0 => clear hret; (repeat (with_reducible rename Fr _ _ _ _ => f9; clear f9)); (repeat (with_reducible rename News _ _ _ _ => f9; clear f9)); (try simp only [Mine.ite_min, Mine.ite_max, Mine.ite_max2] at *); (try simp only [emin', emax']); first | omega | (simp only [decide_eq_true_eq] at *; omega) | (simp_all; done) | (simp_all; omega) | (fail "ar")))
theorem Mine.law_s21i
 {oc2 : Obj} {D : Addr} {its : List Value} {qs : List Int} {k : Nat} {rf al : Bool} {kk : Int} {t5 : Tok}  (H : Mine.Here w h₀ L s.heap m news frs l p loose mean mg mb (Mine.fnScope 34) dp un 40)
 (hc2 : (L + 1 + 1, oc2) ∈ news) (hoc2 : oc2.data = .cell (some (.ref D))) (hD : (D, W.listOf its.toArray k) ∈ news) (hdi : IntsAre its qs) (hil : its.length ≤ 4) (hi0 : 0 < its.length) (hql : qs.length ≤ 4) (hq0 : 0 < qs.length) (hqb : ∀ q ∈ qs, -1 ≤ q ∧ q ≤ 17) (v1 : m "refused" = some (.bool rf)) (v2 : m "alpha" = some (.bool al)) (v3 : m "key" = some (.int kk t5)) (hret : ∀ b h' tk', (b = true ↔ rf = true ∨ (∃ q ∈ qs, q < 1) ∨ (∃ q ∈ qs, 16 < q) ∨ (al = true ∧ True)) → Fr h₀ L h' (fun y => if y = "refused" then some (.bool b) else m y) → News h₀ L h' news → Q .next { s with heap := h', toks := tk' }) :
 wpAny (model rw_ar0036_02.row.prog w) ((Mine.Fa dp un (some []) l).deeper (envOfC nm (Mine.fnScope 34) L fa cd)) (exec (Mine.fnAt 34 21) (envOfC nm (Mine.fnScope 34) L fa cd)) Q (Mine.Out w ((Mine.Fa dp un (some []) l).deeper (envOfC nm (Mine.fnScope 34) L fa cd)) (envOfC nm (Mine.fnScope 34) L fa cd) R) s := by
 obtain ⟨F, X, N, T, Fs, sub, hk, hdp, hun⟩ := H
 (conv => arg 3; arg 1; whnf)
 walk_at "mine lit"
 w_on
 w_strict (
  revert X
  k_fill
  intro X
  
  k_steps)
 all_goals first | exact (Str.ofString "") | exact (0 : Nat) | exact Value.none | skip
 all_goals (refine' hret _ _ _ ?y0 ?F ?N; (case F => assumption); (case N => first | assumption | exact Mine.news_drop (by assumption) | exact Mine.news_drop (Mine.news_drop (by assumption))); (case y0 => clear hret; (repeat (with_reducible rename Fr _ _ _ _ => f9; clear f9)); (repeat (with_reducible rename News _ _ _ _ => f9; clear f9)); (try simp only [Mine.ite_min, Mine.ite_max, Mine.ite_max2] at *); (try simp only [emin', emax']); first | omega | (simp only [decide_eq_true_eq] at *; omega) | (simp_all; done) | (simp_all; omega) | (fail "ar")))
theorem Mine.law_s21r
 {oc2 : Obj} {D : Addr} {its : List Value} {qs : List Int} {k : Nat} {rf al : Bool} {ka : Addr}  (H : Mine.Here w h₀ L s.heap m news frs l p loose mean mg mb (Mine.fnScope 34) dp un 40)
 (hc2 : (L + 1 + 1, oc2) ∈ news) (hoc2 : oc2.data = .cell (some (.ref D))) (hD : (D, W.listOf its.toArray k) ∈ news) (hdi : IntsAre its qs) (hil : its.length ≤ 4) (hi0 : 0 < its.length) (hql : qs.length ≤ 4) (hq0 : 0 < qs.length) (hqb : ∀ q ∈ qs, -1 ≤ q ∧ q ≤ 17) (v1 : m "refused" = some (.bool rf)) (v2 : m "alpha" = some (.bool al)) (v3 : m "key" = some (.ref ka)) (hret : ∀ b h' tk', (b = true ↔ rf = true ∨ (∃ q ∈ qs, q < 1) ∨ (∃ q ∈ qs, 16 < q) ∨ (al = true ∧ True)) → Fr h₀ L h' (fun y => if y = "refused" then some (.bool b) else m y) → News h₀ L h' news → Q .next { s with heap := h', toks := tk' }) :
 wpAny (model rw_ar0036_02.row.prog w) ((Mine.Fa dp un (some []) l).deeper (envOfC nm (Mine.fnScope 34) L fa cd)) (exec (Mine.fnAt 34 21) (envOfC nm (Mine.fnScope 34) L fa cd)) Q (Mine.Out w ((Mine.Fa dp un (some []) l).deeper (envOfC nm (Mine.fnScope 34) L fa cd)) (envOfC nm (Mine.fnScope 34) L fa cd) R) s := by
 obtain ⟨F, X, N, T, Fs, sub, hk, hdp, hun⟩ := H
 (conv => arg 3; arg 1; whnf)
 walk_at "mine lit"
 w_on
 w_strict (
  revert X
  k_fill
  intro X
  
  k_steps)
 all_goals first | exact (Str.ofString "") | exact (0 : Nat) | exact Value.none | skip
 all_goals (refine' hret _ _ _ ?y0 ?F ?N; (case F => assumption); (case N => first | assumption | exact Mine.news_drop (by assumption) | exact Mine.news_drop (Mine.news_drop (by assumption))); (case y0 => clear hret; (repeat (with_reducible rename Fr _ _ _ _ => f9; clear f9)); (repeat (with_reducible rename News _ _ _ _ => f9; clear f9)); (try simp only [Mine.ite_min, Mine.ite_max, Mine.ite_max2] at *); (try simp only [emin', emax']); first | omega | (simp only [decide_eq_true_eq] at *; omega) | (simp_all; done) | (simp_all; omega) | (fail "ar")))
theorem Mine.law_s22
 {fm cl gr : Int} {t1 t2 t3 : Tok} {rf : Bool}  (H : Mine.Here w h₀ L s.heap m news frs l p loose mean mg mb (Mine.fnScope 34) dp un 40)
 (v1 : m "form" = some (.int fm t1)) (v2 : m "clear" = some (.int cl t2)) (v3 : m "ground" = some (.int gr t3)) (v4 : m "refused" = some (.bool rf)) (hret : ∀ b h' tk', (b = true ↔ rf = true ∨ 3 < fm ∨ (cl = 3 ∨ cl = 4) ∨ (gr = 3 ∨ gr = 4)) → Fr h₀ L h' (fun y => if y = "refused" then some (.bool b) else m y) → News h₀ L h' news → Q .next { s with heap := h', toks := tk' }) :
 wpAny (model rw_ar0036_02.row.prog w) ((Mine.Fa dp un (some []) l).deeper (envOfC nm (Mine.fnScope 34) L fa cd)) (exec (Mine.fnAt 34 22) (envOfC nm (Mine.fnScope 34) L fa cd)) Q (Mine.Out w ((Mine.Fa dp un (some []) l).deeper (envOfC nm (Mine.fnScope 34) L fa cd)) (envOfC nm (Mine.fnScope 34) L fa cd) R) s := by
 obtain ⟨F, X, N, T, Fs, sub, hk, hdp, hun⟩ := H
 (conv => arg 3; arg 1; whnf)
 walk_at "mine lit"
 w_on
 w_strict (
  revert X
  k_fill
  intro X
  
  k_steps)
 all_goals first | exact (Str.ofString "") | exact (0 : Nat) | exact Value.none | skip
 all_goals (refine' hret _ _ _ ?y0 ?F ?N; (case F => assumption); (case N => first | assumption | exact Mine.news_drop (by assumption) | exact Mine.news_drop (Mine.news_drop (by assumption))); (case y0 => clear hret; (repeat (with_reducible rename Fr _ _ _ _ => f9; clear f9)); (repeat (with_reducible rename News _ _ _ _ => f9; clear f9)); (try simp only [Mine.ite_min, Mine.ite_max, Mine.ite_max2] at *); (try simp only [emin', emax']); first | omega | (simp only [decide_eq_true_eq] at *; omega) | (simp_all; done) | (simp_all; omega) | (fail "ar")))
end
section
variable {w : World} {p : Program} {loose : List Str} {mean : ExcName → Option Value} {mg mb : Str → Option Value}
variable {dp un : Nat} {nm : Str} {fa : Addr} {cd : Value} {l : List Env} {h₀ : Heap} {L : Addr} {m : Str → Option Value} {news frs : Mine.Led} {s : Shared} {Q : Flow → Shared → Prop} {R : Result → Shared → Prop}
local macro_rules | `(tactic| walk_at $s:str) => Mine.hand "i70 " s
local macro_rules | `(tactic| walk_at "p") => Mine.pad
theorem Mine.k23 : True := by
 k_with "i70 binaryOp Pow int int" => ((k_here; (with_reducible show wpAny _ _ (binaryOp _ _ (Value.int 32 _)) _ _ _); k_dflt (refine' Mine.pow32 ?hB ?_; (case hB => assumption))))
 k_with "i70 binaryOp Pow int int" => ((k_here; (with_reducible show wpAny _ _ (binaryOp _ _ (Value.int 31 _)) _ _ _); k_dflt (refine' Mine.pow31 ?hB ?_; (case hB => assumption))))
 k_with "i70 call builtin:min" => ((k_here; (with_reducible show wpAny _ _ (call (Value.builtin _) [Value.ref _]) _ _ _); k_dflt (refine' Mine.min_lst ?h ?F ?N ?m ?i ?n ?_; (case F => k_asm); (case N => k_asm); (case h => rfl); (case m => assumption); (case i => assumption); (case n => assumption)); intro h' M' t' tk' F' N' a' b'; have emin' := Mine.ex_min a' b'))
 k_with "i70 call builtin:max" => ((k_here; (with_reducible show wpAny _ _ (call (Value.builtin _) [Value.ref _]) _ _ _); k_dflt (refine' Mine.max_lst ?h ?F ?N ?m ?i ?n ?_; (case F => k_asm); (case N => k_asm); (case h => rfl); (case m => assumption); (case i => assumption); (case n => assumption)); intro h' M' t' tk' F' N' a' b'; have emax' := Mine.ex_max a' b'))
 k_with "i70 binaryOp Pow int int" => ((k_here; (with_reducible show wpAny _ _ (binaryOp _ (Value.int _ _) (Value.int (ite _ _ _) _)) _ _ _); k_dflt (refine' Mine.pow_top ?y1 ?y2 ?_; (case y1 => split <;> omega); (case y2 => have q9 := hqb M' a'; split <;> omega)); intro v' p1' p2'))
 trivial
theorem Mine.law_s18_0
 {X Y nb : Int} {t1 t2 t3 t4 : Tok}  (H : Mine.Here w h₀ L s.heap m news frs l p loose mean mg mb (Mine.fnScope 34) dp un 40)
 (v1 : m "mode" = some (.int 0 t1)) (v2 : m "wide" = some (.int X t2)) (v3 : m "high" = some (.int Y t3)) (v4 : m "number" = some (.int nb t4)) (hret : ∀  h' tk' nw, (∀ p ∈ news, p ∈ nw) → Fr h₀ L h' (fun y => if y = "size" then some (.none) else m y) → News h₀ L h' nw → Q .next { s with heap := h', toks := tk' }) :
 wpAny (model rw_ar0036_02.row.prog w) ((Mine.Fa dp un (some []) l).deeper (envOfC nm (Mine.fnScope 34) L fa cd)) (exec (Mine.fnAt 34 18) (envOfC nm (Mine.fnScope 34) L fa cd)) Q (Mine.Out w ((Mine.Fa dp un (some []) l).deeper (envOfC nm (Mine.fnScope 34) L fa cd)) (envOfC nm (Mine.fnScope 34) L fa cd) R) s := by
 obtain ⟨F, X, N, T, Fs, sub, hk, hdp, hun⟩ := H
 (conv => arg 3; arg 1; whnf)
 walk_at "mine lit"
 w_on
 w_strict (
  revert X
  k_fill
  intro X
  
  k_steps)
 all_goals first | exact (Str.ofString "") | exact (0 : Nat) | exact Value.none | skip
 all_goals (refine' hret _ _ _ ?b  ?F ?N; (case F => assumption); (case N => assumption); (case b => walk_at "mine sub2"))
theorem Mine.law_s18_1
 {X Y nb : Int} {t1 t2 t3 t4 : Tok}  (H : Mine.Here w h₀ L s.heap m news frs l p loose mean mg mb (Mine.fnScope 34) dp un 40)
 (v1 : m "mode" = some (.int 1 t1)) (v2 : m "wide" = some (.int X t2)) (v3 : m "high" = some (.int Y t3)) (v4 : m "number" = some (.int nb t4)) (hret : ∀ sz h' tk' nw, (∀ p ∈ news, p ∈ nw) → (∃ u1 u2, (sz, ({ cls := .type "tuple", data := .seq [Value.int X u1, Value.int Y u2].toArray } : Obj)) ∈ nw) → Fr h₀ L h' (fun y => if y = "size" then some (.ref sz) else m y) → News h₀ L h' nw → Q .next { s with heap := h', toks := tk' }) :
 wpAny (model rw_ar0036_02.row.prog w) ((Mine.Fa dp un (some []) l).deeper (envOfC nm (Mine.fnScope 34) L fa cd)) (exec (Mine.fnAt 34 18) (envOfC nm (Mine.fnScope 34) L fa cd)) Q (Mine.Out w ((Mine.Fa dp un (some []) l).deeper (envOfC nm (Mine.fnScope 34) L fa cd)) (envOfC nm (Mine.fnScope 34) L fa cd) R) s := by
 obtain ⟨F, X, N, T, Fs, sub, hk, hdp, hun⟩ := H
 (conv => arg 3; arg 1; whnf)
 walk_at "mine lit"
 w_on
 w_strict (
  revert X
  k_fill
  intro X
  
  k_steps)
 all_goals first | exact (Str.ofString "") | exact (0 : Nat) | exact Value.none | skip
 all_goals (refine' hret _ _ _ _ ?b ?y0 ?F ?N; (case F => assumption); (case N => assumption); (case b => walk_at "mine sub2"); (case y0 => first | exact ⟨_, _, .head _⟩ | exact ⟨_, _, .tail _ (.head _)⟩ | exact ⟨_, _, .tail _ (.tail _ (.head _))⟩ | exact ⟨_, _, .tail _ (.tail _ (.tail _ (.head _)))⟩ | exact ⟨_, _, .tail _ (.tail _ (.tail _ (.tail _ (.head _))))⟩ | exact ⟨_, _, .tail _ (.tail _ (.tail _ (.tail _ (.tail _ (.head _)))))⟩))
theorem Mine.law_s18_2
 {X Y nb : Int} {t1 t2 t3 t4 : Tok}  (H : Mine.Here w h₀ L s.heap m news frs l p loose mean mg mb (Mine.fnScope 34) dp un 40)
 (v1 : m "mode" = some (.int 2 t1)) (v2 : m "wide" = some (.int X t2)) (v3 : m "high" = some (.int Y t3)) (v4 : m "number" = some (.int nb t4)) (hret : ∀ sz h' tk' nw, (∀ p ∈ news, p ∈ nw) → (∃ u1 u2, (sz, ({ cls := .type "tuple", data := .seq [Value.int X u1, Value.int Y u2].toArray } : Obj)) ∈ nw) → Fr h₀ L h' (fun y => if y = "size" then some (.ref sz) else m y) → News h₀ L h' nw → Q .next { s with heap := h', toks := tk' }) :
 wpAny (model rw_ar0036_02.row.prog w) ((Mine.Fa dp un (some []) l).deeper (envOfC nm (Mine.fnScope 34) L fa cd)) (exec (Mine.fnAt 34 18) (envOfC nm (Mine.fnScope 34) L fa cd)) Q (Mine.Out w ((Mine.Fa dp un (some []) l).deeper (envOfC nm (Mine.fnScope 34) L fa cd)) (envOfC nm (Mine.fnScope 34) L fa cd) R) s := by
 obtain ⟨F, X, N, T, Fs, sub, hk, hdp, hun⟩ := H
 (conv => arg 3; arg 1; whnf)
 walk_at "mine lit"
 w_on
 w_strict (
  revert X
  k_fill
  intro X
  
  k_steps)
 all_goals first | exact (Str.ofString "") | exact (0 : Nat) | exact Value.none | skip
 all_goals (refine' hret _ _ _ _ ?b ?y0 ?F ?N; (case F => assumption); (case N => assumption); (case b => walk_at "mine sub2"); (case y0 => first | exact ⟨_, _, .head _⟩ | exact ⟨_, _, .tail _ (.head _)⟩ | exact ⟨_, _, .tail _ (.tail _ (.head _))⟩ | exact ⟨_, _, .tail _ (.tail _ (.tail _ (.head _)))⟩ | exact ⟨_, _, .tail _ (.tail _ (.tail _ (.tail _ (.head _))))⟩ | exact ⟨_, _, .tail _ (.tail _ (.tail _ (.tail _ (.tail _ (.head _)))))⟩))
theorem Mine.law_s18_3
 {X Y nb : Int} {t1 t2 t3 t4 : Tok}  (H : Mine.Here w h₀ L s.heap m news frs l p loose mean mg mb (Mine.fnScope 34) dp un 40)
 (v1 : m "mode" = some (.int 3 t1)) (v2 : m "wide" = some (.int X t2)) (v3 : m "high" = some (.int Y t3)) (v4 : m "number" = some (.int nb t4)) (hret : ∀ sz h' tk' nw, (∀ p ∈ news, p ∈ nw) → (∃ u1 u2, (sz, ({ cls := .type "tuple", data := .seq [Value.int (X + nb.fmod 2) u1, Value.int (Y + 1 - nb.fmod 2) u2].toArray } : Obj)) ∈ nw) → Fr h₀ L h' (fun y => if y = "size" then some (.ref sz) else m y) → News h₀ L h' nw → Q .next { s with heap := h', toks := tk' }) :
 wpAny (model rw_ar0036_02.row.prog w) ((Mine.Fa dp un (some []) l).deeper (envOfC nm (Mine.fnScope 34) L fa cd)) (exec (Mine.fnAt 34 18) (envOfC nm (Mine.fnScope 34) L fa cd)) Q (Mine.Out w ((Mine.Fa dp un (some []) l).deeper (envOfC nm (Mine.fnScope 34) L fa cd)) (envOfC nm (Mine.fnScope 34) L fa cd) R) s := by
 obtain ⟨F, X, N, T, Fs, sub, hk, hdp, hun⟩ := H
 (conv => arg 3; arg 1; whnf)
 walk_at "mine lit"
 w_on
 w_strict (
  revert X
  k_fill
  intro X
  
  k_steps)
 all_goals first | exact (Str.ofString "") | exact (0 : Nat) | exact Value.none | skip
 all_goals (refine' hret _ _ _ _ ?b ?y0 ?F ?N; (case F => assumption); (case N => assumption); (case b => walk_at "mine sub2"); (case y0 => first | exact ⟨_, _, .head _⟩ | exact ⟨_, _, .tail _ (.head _)⟩ | exact ⟨_, _, .tail _ (.tail _ (.head _))⟩ | exact ⟨_, _, .tail _ (.tail _ (.tail _ (.head _)))⟩ | exact ⟨_, _, .tail _ (.tail _ (.tail _ (.tail _ (.head _))))⟩ | exact ⟨_, _, .tail _ (.tail _ (.tail _ (.tail _ (.tail _ (.head _)))))⟩))
theorem Mine.law_s18_4
 {X Y nb : Int} {t1 t2 t3 t4 : Tok}  (H : Mine.Here w h₀ L s.heap m news frs l p loose mean mg mb (Mine.fnScope 34) dp un 40)
 (v1 : m "mode" = some (.int 4 t1)) (v2 : m "wide" = some (.int X t2)) (v3 : m "high" = some (.int Y t3)) (v4 : m "number" = some (.int nb t4)) (hret : ∀ sz h' tk' nw, (∀ p ∈ news, p ∈ nw) → (∃ u1 u2 u3, (sz, ({ cls := .type "tuple", data := .seq [Value.int X u1, Value.int Y u2, Value.int 1 u3].toArray } : Obj)) ∈ nw) → Fr h₀ L h' (fun y => if y = "size" then some (.ref sz) else m y) → News h₀ L h' nw → Q .next { s with heap := h', toks := tk' }) :
 wpAny (model rw_ar0036_02.row.prog w) ((Mine.Fa dp un (some []) l).deeper (envOfC nm (Mine.fnScope 34) L fa cd)) (exec (Mine.fnAt 34 18) (envOfC nm (Mine.fnScope 34) L fa cd)) Q (Mine.Out w ((Mine.Fa dp un (some []) l).deeper (envOfC nm (Mine.fnScope 34) L fa cd)) (envOfC nm (Mine.fnScope 34) L fa cd) R) s := by
 obtain ⟨F, X, N, T, Fs, sub, hk, hdp, hun⟩ := H
 (conv => arg 3; arg 1; whnf)
 walk_at "mine lit"
 w_on
 w_strict (
  revert X
  k_fill
  intro X
  
  k_steps)
 all_goals first | exact (Str.ofString "") | exact (0 : Nat) | exact Value.none | skip
 all_goals (refine' hret _ _ _ _ ?b ?y0 ?F ?N; (case F => assumption); (case N => assumption); (case b => walk_at "mine sub2"); (case y0 => first | exact ⟨_, _, _, .head _⟩ | exact ⟨_, _, _, .tail _ (.head _)⟩ | exact ⟨_, _, _, .tail _ (.tail _ (.head _))⟩ | exact ⟨_, _, _, .tail _ (.tail _ (.tail _ (.head _)))⟩ | exact ⟨_, _, _, .tail _ (.tail _ (.tail _ (.tail _ (.head _))))⟩ | exact ⟨_, _, _, .tail _ (.tail _ (.tail _ (.tail _ (.tail _ (.head _)))))⟩))
theorem Mine.law_s19_0
 {X Y : Int} {t1 t2 t3 : Tok}  (H : Mine.Here w h₀ L s.heap m news frs l p loose mean mg mb (Mine.fnScope 34) dp un 40)
 (v1 : m "mode" = some (.int 0 t1)) (v2 : m "wide" = some (.int X t2)) (v3 : m "high" = some (.int Y t3)) (hret : ∀ wd h' tk' nw, (∀ p ∈ news, p ∈ nw) → (wd, ({ cls := .type "tuple", data := .seq [Value.int X t2, Value.int Y t3].toArray } : Obj)) ∈ nw → Fr h₀ L h' (fun y => if y = "words" then some (.ref wd) else m y) → News h₀ L h' nw → Q .next { s with heap := h', toks := tk' }) :
 wpAny (model rw_ar0036_02.row.prog w) ((Mine.Fa dp un (some []) l).deeper (envOfC nm (Mine.fnScope 34) L fa cd)) (exec (Mine.fnAt 34 19) (envOfC nm (Mine.fnScope 34) L fa cd)) Q (Mine.Out w ((Mine.Fa dp un (some []) l).deeper (envOfC nm (Mine.fnScope 34) L fa cd)) (envOfC nm (Mine.fnScope 34) L fa cd) R) s := by
 obtain ⟨F, X, N, T, Fs, sub, hk, hdp, hun⟩ := H
 (conv => arg 3; arg 1; whnf)
 walk_at "mine lit"
 w_on
 w_strict (
  revert X
  k_fill
  intro X
  
  k_steps)
 all_goals first | exact (Str.ofString "") | exact (0 : Nat) | exact Value.none | skip
 all_goals (refine' hret _ _ _ _ ?b ?y0 ?F ?N; (case F => assumption); (case N => assumption); (case b => walk_at "mine sub2"); (case y0 => first | exact .head _ | exact .tail _ (.head _) | exact .tail _ (.tail _ (.head _)) | exact .tail _ (.tail _ (.tail _ (.head _))) | exact .tail _ (.tail _ (.tail _ (.tail _ (.head _)))) | exact .tail _ (.tail _ (.tail _ (.tail _ (.tail _ (.head _)))))))
theorem Mine.law_s19_1
 {X Y : Int} {t1 t2 t3 : Tok}  (H : Mine.Here w h₀ L s.heap m news frs l p loose mean mg mb (Mine.fnScope 34) dp un 40)
 (v1 : m "mode" = some (.int 1 t1)) (v2 : m "wide" = some (.int X t2)) (v3 : m "high" = some (.int Y t3)) (hret : ∀ wd h' tk' nw, (∀ p ∈ news, p ∈ nw) → (wd, ({ cls := .type "tuple", data := .seq [Value.none, Value.none].toArray } : Obj)) ∈ nw → Fr h₀ L h' (fun y => if y = "words" then some (.ref wd) else m y) → News h₀ L h' nw → Q .next { s with heap := h', toks := tk' }) :
 wpAny (model rw_ar0036_02.row.prog w) ((Mine.Fa dp un (some []) l).deeper (envOfC nm (Mine.fnScope 34) L fa cd)) (exec (Mine.fnAt 34 19) (envOfC nm (Mine.fnScope 34) L fa cd)) Q (Mine.Out w ((Mine.Fa dp un (some []) l).deeper (envOfC nm (Mine.fnScope 34) L fa cd)) (envOfC nm (Mine.fnScope 34) L fa cd) R) s := by
 obtain ⟨F, X, N, T, Fs, sub, hk, hdp, hun⟩ := H
 (conv => arg 3; arg 1; whnf)
 walk_at "mine lit"
 w_on
 w_strict (
  revert X
  k_fill
  intro X
  
  k_steps)
 all_goals first | exact (Str.ofString "") | exact (0 : Nat) | exact Value.none | skip
 all_goals (refine' hret _ _ _ _ ?b ?y0 ?F ?N; (case F => assumption); (case N => assumption); (case b => walk_at "mine sub2"); (case y0 => first | exact .head _ | exact .tail _ (.head _) | exact .tail _ (.tail _ (.head _)) | exact .tail _ (.tail _ (.tail _ (.head _))) | exact .tail _ (.tail _ (.tail _ (.tail _ (.head _)))) | exact .tail _ (.tail _ (.tail _ (.tail _ (.tail _ (.head _)))))))
theorem Mine.law_s19_2
 {X Y : Int} {t1 t2 t3 : Tok}  (H : Mine.Here w h₀ L s.heap m news frs l p loose mean mg mb (Mine.fnScope 34) dp un 40)
 (v1 : m "mode" = some (.int 2 t1)) (v2 : m "wide" = some (.int X t2)) (v3 : m "high" = some (.int Y t3)) (hret : ∀ wd h' tk' nw, (∀ p ∈ news, p ∈ nw) → (wd, ({ cls := .type "tuple", data := .seq [Value.int X t2, Value.int Y t3].toArray } : Obj)) ∈ nw → Fr h₀ L h' (fun y => if y = "words" then some (.ref wd) else m y) → News h₀ L h' nw → Q .next { s with heap := h', toks := tk' }) :
 wpAny (model rw_ar0036_02.row.prog w) ((Mine.Fa dp un (some []) l).deeper (envOfC nm (Mine.fnScope 34) L fa cd)) (exec (Mine.fnAt 34 19) (envOfC nm (Mine.fnScope 34) L fa cd)) Q (Mine.Out w ((Mine.Fa dp un (some []) l).deeper (envOfC nm (Mine.fnScope 34) L fa cd)) (envOfC nm (Mine.fnScope 34) L fa cd) R) s := by
 obtain ⟨F, X, N, T, Fs, sub, hk, hdp, hun⟩ := H
 (conv => arg 3; arg 1; whnf)
 walk_at "mine lit"
 w_on
 w_strict (
  revert X
  k_fill
  intro X
  
  k_steps)
 all_goals first | exact (Str.ofString "") | exact (0 : Nat) | exact Value.none | skip
 all_goals (refine' hret _ _ _ _ ?b ?y0 ?F ?N; (case F => assumption); (case N => assumption); (case b => walk_at "mine sub2"); (case y0 => first | exact .head _ | exact .tail _ (.head _) | exact .tail _ (.tail _ (.head _)) | exact .tail _ (.tail _ (.tail _ (.head _))) | exact .tail _ (.tail _ (.tail _ (.tail _ (.head _)))) | exact .tail _ (.tail _ (.tail _ (.tail _ (.tail _ (.head _)))))))
theorem Mine.law_s19_3
 {X Y : Int} {t1 t2 t3 : Tok}  (H : Mine.Here w h₀ L s.heap m news frs l p loose mean mg mb (Mine.fnScope 34) dp un 40)
 (v1 : m "mode" = some (.int 3 t1)) (v2 : m "wide" = some (.int X t2)) (v3 : m "high" = some (.int Y t3)) (hret : ∀ wd h' tk' nw, (∀ p ∈ news, p ∈ nw) → (wd, ({ cls := .type "tuple", data := .seq [Value.int X t2, Value.int Y t3].toArray } : Obj)) ∈ nw → Fr h₀ L h' (fun y => if y = "words" then some (.ref wd) else m y) → News h₀ L h' nw → Q .next { s with heap := h', toks := tk' }) :
 wpAny (model rw_ar0036_02.row.prog w) ((Mine.Fa dp un (some []) l).deeper (envOfC nm (Mine.fnScope 34) L fa cd)) (exec (Mine.fnAt 34 19) (envOfC nm (Mine.fnScope 34) L fa cd)) Q (Mine.Out w ((Mine.Fa dp un (some []) l).deeper (envOfC nm (Mine.fnScope 34) L fa cd)) (envOfC nm (Mine.fnScope 34) L fa cd) R) s := by
 obtain ⟨F, X, N, T, Fs, sub, hk, hdp, hun⟩ := H
 (conv => arg 3; arg 1; whnf)
 walk_at "mine lit"
 w_on
 w_strict (
  revert X
  k_fill
  intro X
  
  k_steps)
 all_goals first | exact (Str.ofString "") | exact (0 : Nat) | exact Value.none | skip
 all_goals (refine' hret _ _ _ _ ?b ?y0 ?F ?N; (case F => assumption); (case N => assumption); (case b => walk_at "mine sub2"); (case y0 => first | exact .head _ | exact .tail _ (.head _) | exact .tail _ (.tail _ (.head _)) | exact .tail _ (.tail _ (.tail _ (.head _))) | exact .tail _ (.tail _ (.tail _ (.tail _ (.head _)))) | exact .tail _ (.tail _ (.tail _ (.tail _ (.tail _ (.head _)))))))
theorem Mine.law_s19_4
 {X Y : Int} {t1 t2 t3 : Tok}  (H : Mine.Here w h₀ L s.heap m news frs l p loose mean mg mb (Mine.fnScope 34) dp un 40)
 (v1 : m "mode" = some (.int 4 t1)) (v2 : m "wide" = some (.int X t2)) (v3 : m "high" = some (.int Y t3)) (hret : ∀ wd h' tk' nw, (∀ p ∈ news, p ∈ nw) → (wd, ({ cls := .type "tuple", data := .seq [Value.none, Value.none].toArray } : Obj)) ∈ nw → Fr h₀ L h' (fun y => if y = "words" then some (.ref wd) else m y) → News h₀ L h' nw → Q .next { s with heap := h', toks := tk' }) :
 wpAny (model rw_ar0036_02.row.prog w) ((Mine.Fa dp un (some []) l).deeper (envOfC nm (Mine.fnScope 34) L fa cd)) (exec (Mine.fnAt 34 19) (envOfC nm (Mine.fnScope 34) L fa cd)) Q (Mine.Out w ((Mine.Fa dp un (some []) l).deeper (envOfC nm (Mine.fnScope 34) L fa cd)) (envOfC nm (Mine.fnScope 34) L fa cd) R) s := by
 obtain ⟨F, X, N, T, Fs, sub, hk, hdp, hun⟩ := H
 (conv => arg 3; arg 1; whnf)
 walk_at "mine lit"
 w_on
 w_strict (
  revert X
  k_fill
  intro X
  
  k_steps)
 all_goals first | exact (Str.ofString "") | exact (0 : Nat) | exact Value.none | skip
 all_goals (refine' hret _ _ _ _ ?b ?y0 ?F ?N; (case F => assumption); (case N => assumption); (case b => walk_at "mine sub2"); (case y0 => first | exact .head _ | exact .tail _ (.head _) | exact .tail _ (.tail _ (.head _)) | exact .tail _ (.tail _ (.tail _ (.head _))) | exact .tail _ (.tail _ (.tail _ (.tail _ (.head _)))) | exact .tail _ (.tail _ (.tail _ (.tail _ (.tail _ (.head _)))))))
theorem Mine.k24 : True := by
 k_with "i70 subscriptTail" => ((k_here; (with_reducible show wpAny _ _ (subscriptTail _ _ (Value.ref _) (Value.int _ _)) _ _ _); k_dflt (refine' Mine.item_lst ?N ?m ?y0 ?y1 ?x ?_ ?hs; (case N => k_asm); (case m => assumption); (case y0 => decide); (case y1 => decide); (case x => rfl); (case hs => with_unfolding_all rfl); k_whole)))
 trivial
theorem Mine.law_s23n
 {oc2 : Obj} {D : Addr} {q : Int} {uq : Tok} {k : Nat} {rf al g : Bool} {lp : Addr}  (H : Mine.Here w h₀ L s.heap m news frs l p loose mean mg mb (Mine.fnScope 34) dp un 40)
 (hc2 : (L + 1 + 1, oc2) ∈ news) (hoc2 : oc2.data = .cell (some (.ref D))) (hD : (D, W.listOf [Value.int q uq].toArray k) ∈ news) (v0 : m "palette" = some (.ref lp)) (v1 : m "refused" = some (.bool rf)) (v2 : m "alpha" = some (.bool al)) (v4 : m "grey" = some (.bool g)) (v3 : m "key" = some (.none)) (hret : ∀ b h' tk', (b = true ↔ rf = true ∨ ¬ (q = 1 ∨ q = 2 ∨ q = 4 ∨ q = 8) ∨ False ∨ al = true ∨ g = true) → Fr h₀ L h' (fun y => if y = "refused" then some (.bool b) else m y) → News h₀ L h' news → Q .next { s with heap := h', toks := tk' }) :
 wpAny (model rw_ar0036_02.row.prog w) ((Mine.Fa dp un (some []) l).deeper (envOfC nm (Mine.fnScope 34) L fa cd)) (exec (Mine.fnAt 34 23) (envOfC nm (Mine.fnScope 34) L fa cd)) Q (Mine.Out w ((Mine.Fa dp un (some []) l).deeper (envOfC nm (Mine.fnScope 34) L fa cd)) (envOfC nm (Mine.fnScope 34) L fa cd) R) s := by
 obtain ⟨F, X, N, T, Fs, sub, hk, hdp, hun⟩ := H
 (conv => arg 3; arg 1; whnf)
 walk_at "mine lit"
 w_on
 w_strict (
  revert X
  k_fill
  intro X
  
  k_steps)
 all_goals first | exact (Str.ofString "") | exact (0 : Nat) | exact Value.none | skip
 all_goals (refine' hret _ _ _ ?y0 ?F ?N; (case F => assumption); (case N => first | assumption | exact Mine.news_drop (by assumption) | exact Mine.news_drop (Mine.news_drop (by assumption))); (case y0 => clear hret; (repeat (with_reducible rename Fr _ _ _ _ => f9; clear f9)); (repeat (with_reducible rename News _ _ _ _ => f9; clear f9)); (try simp only [Mine.ite_min, Mine.ite_max, Mine.ite_max2] at *); (try simp only [emin', emax']); first | omega | (simp only [decide_eq_true_eq] at *; omega) | (simp_all; done) | (simp_all; omega) | (fail "ar")))
theorem Mine.law_s23i
 {oc2 : Obj} {D : Addr} {q : Int} {uq : Tok} {k : Nat} {rf al g : Bool} {lp : Addr} {kk : Int} {t5 : Tok}  (H : Mine.Here w h₀ L s.heap m news frs l p loose mean mg mb (Mine.fnScope 34) dp un 40)
 (hc2 : (L + 1 + 1, oc2) ∈ news) (hoc2 : oc2.data = .cell (some (.ref D))) (hD : (D, W.listOf [Value.int q uq].toArray k) ∈ news) (v0 : m "palette" = some (.ref lp)) (v1 : m "refused" = some (.bool rf)) (v2 : m "alpha" = some (.bool al)) (v4 : m "grey" = some (.bool g)) (v3 : m "key" = some (.int kk t5)) (hret : ∀ b h' tk', (b = true ↔ rf = true ∨ ¬ (q = 1 ∨ q = 2 ∨ q = 4 ∨ q = 8) ∨ True ∨ al = true ∨ g = true) → Fr h₀ L h' (fun y => if y = "refused" then some (.bool b) else m y) → News h₀ L h' news → Q .next { s with heap := h', toks := tk' }) :
 wpAny (model rw_ar0036_02.row.prog w) ((Mine.Fa dp un (some []) l).deeper (envOfC nm (Mine.fnScope 34) L fa cd)) (exec (Mine.fnAt 34 23) (envOfC nm (Mine.fnScope 34) L fa cd)) Q (Mine.Out w ((Mine.Fa dp un (some []) l).deeper (envOfC nm (Mine.fnScope 34) L fa cd)) (envOfC nm (Mine.fnScope 34) L fa cd) R) s := by
 obtain ⟨F, X, N, T, Fs, sub, hk, hdp, hun⟩ := H
 (conv => arg 3; arg 1; whnf)
 walk_at "mine lit"
 w_on
 w_strict (
  revert X
  k_fill
  intro X
  
  k_steps)
 all_goals first | exact (Str.ofString "") | exact (0 : Nat) | exact Value.none | skip
 all_goals (refine' hret _ _ _ ?y0 ?F ?N; (case F => assumption); (case N => first | assumption | exact Mine.news_drop (by assumption) | exact Mine.news_drop (Mine.news_drop (by assumption))); (case y0 => clear hret; (repeat (with_reducible rename Fr _ _ _ _ => f9; clear f9)); (repeat (with_reducible rename News _ _ _ _ => f9; clear f9)); (try simp only [Mine.ite_min, Mine.ite_max, Mine.ite_max2] at *); (try simp only [emin', emax']); first | omega | (simp only [decide_eq_true_eq] at *; omega) | (simp_all; done) | (simp_all; omega) | (fail "ar")))
theorem Mine.law_s23r
 {oc2 : Obj} {D : Addr} {q : Int} {uq : Tok} {k : Nat} {rf al g : Bool} {lp : Addr} {ka : Addr}  (H : Mine.Here w h₀ L s.heap m news frs l p loose mean mg mb (Mine.fnScope 34) dp un 40)
 (hc2 : (L + 1 + 1, oc2) ∈ news) (hoc2 : oc2.data = .cell (some (.ref D))) (hD : (D, W.listOf [Value.int q uq].toArray k) ∈ news) (v0 : m "palette" = some (.ref lp)) (v1 : m "refused" = some (.bool rf)) (v2 : m "alpha" = some (.bool al)) (v4 : m "grey" = some (.bool g)) (v3 : m "key" = some (.ref ka)) (hret : ∀ b h' tk', (b = true ↔ rf = true ∨ ¬ (q = 1 ∨ q = 2 ∨ q = 4 ∨ q = 8) ∨ True ∨ al = true ∨ g = true) → Fr h₀ L h' (fun y => if y = "refused" then some (.bool b) else m y) → News h₀ L h' news → Q .next { s with heap := h', toks := tk' }) :
 wpAny (model rw_ar0036_02.row.prog w) ((Mine.Fa dp un (some []) l).deeper (envOfC nm (Mine.fnScope 34) L fa cd)) (exec (Mine.fnAt 34 23) (envOfC nm (Mine.fnScope 34) L fa cd)) Q (Mine.Out w ((Mine.Fa dp un (some []) l).deeper (envOfC nm (Mine.fnScope 34) L fa cd)) (envOfC nm (Mine.fnScope 34) L fa cd) R) s := by
 obtain ⟨F, X, N, T, Fs, sub, hk, hdp, hun⟩ := H
 (conv => arg 3; arg 1; whnf)
 walk_at "mine lit"
 w_on
 w_strict (
  revert X
  k_fill
  intro X
  
  k_steps)
 all_goals first | exact (Str.ofString "") | exact (0 : Nat) | exact Value.none | skip
 all_goals (refine' hret _ _ _ ?y0 ?F ?N; (case F => assumption); (case N => first | assumption | exact Mine.news_drop (by assumption) | exact Mine.news_drop (Mine.news_drop (by assumption))); (case y0 => clear hret; (repeat (with_reducible rename Fr _ _ _ _ => f9; clear f9)); (repeat (with_reducible rename News _ _ _ _ => f9; clear f9)); (try simp only [Mine.ite_min, Mine.ite_max, Mine.ite_max2] at *); (try simp only [emin', emax']); first | omega | (simp only [decide_eq_true_eq] at *; omega) | (simp_all; done) | (simp_all; omega) | (fail "ar")))
theorem Mine.law_s23x
  (H : Mine.Here w h₀ L s.heap m news frs l p loose mean mg mb (Mine.fnScope 34) dp un 40)
 (v0 : m "palette" = some .none) (hret : ∀ tk', Fr h₀ L s.heap m → News h₀ L s.heap news → Q .next { s with toks := tk' }) :
 wpAny (model rw_ar0036_02.row.prog w) ((Mine.Fa dp un (some []) l).deeper (envOfC nm (Mine.fnScope 34) L fa cd)) (exec (Mine.fnAt 34 23) (envOfC nm (Mine.fnScope 34) L fa cd)) Q (Mine.Out w ((Mine.Fa dp un (some []) l).deeper (envOfC nm (Mine.fnScope 34) L fa cd)) (envOfC nm (Mine.fnScope 34) L fa cd) R) s := by
 obtain ⟨F, X, N, T, Fs, sub, hk, hdp, hun⟩ := H
 (conv => arg 3; arg 1; whnf)
 walk_at "mine lit"
 w_on
 w_strict (
  revert X
  k_fill
  intro X
  
  k_steps)
 all_goals first | exact (Str.ofString "") | exact (0 : Nat) | exact Value.none | skip
 all_goals exact hret _ (by assumption) (by assumption)
end
section
namespace Mine
section
variable {w : World} {p : Program} {loose : List Str} {mean : ExcName → Option Value} {mg mb : Str → Option Value} {dp un : Nat} {nm : Str} {fa : Addr} {cd : Value} {h₀ : Heap} {L : Addr} {m : Str → Option Value} {news : Led} {s : Shared} {Q : Flow → Shared → Prop} {R : Result → Shared → Prop} {rest : List Stmt}
theorem law_sz {ls : Addr} {md X Y sd nb fm : Int} {al g : Bool} {pl : Int} (H : Here w h₀ L s.heap m news [] [] p loose mean mg mb (fnScope 34) dp un 40) (V : Vars m ls md X Y sd nb fm al g pl) (h0 : 0 ≤ md) (h5 : md < 5) (x0 : -3 ≤ X) (x1 : X ≤ 4294967292) (y0 : -3 ≤ Y) (y1 : Y ≤ 4294967292) (n0 : 0 ≤ nb)
    (next : ∀ vsz v1 v2 wd ok m' h' tk' nw, (ok ↔ md ≤ 2) → (∀ p ∈ news, p ∈ nw) → (∀ m2 : PySem.Str → Option Value, m2 "size" = some vsz → m2 "width" = some v1 → m2 "height" = some v2 → SizeIn nw m2 X Y ok) → (wd, ({ cls := .type "tuple", data := .seq [v1, v2].toArray } : Obj)) ∈ nw → m' "words" = some (.ref wd) → m' "size" = some vsz → (∀ y : PySem.Str, y ≠ "size" → y ≠ "words" → m' y = m y) → Here w h₀ L h' m' nw [] [] p loose mean mg mb (fnScope 34) dp un 40 → wpAny (model rw_ar0036_02.row.prog w) ((Fa dp un (some []) []).deeper (envOfC nm (fnScope 34) L fa cd)) (execs (rest) (envOfC nm (fnScope 34) L fa cd)) Q (Out w ((Fa dp un (some []) []).deeper (envOfC nm (fnScope 34) L fa cd)) (envOfC nm (fnScope 34) L fa cd) R) { s with heap := h', toks := tk' }) :
    wpAny (model rw_ar0036_02.row.prog w) ((Fa dp un (some []) []).deeper (envOfC nm (fnScope 34) L fa cd)) (execs (fnAt 34 18 :: fnAt 34 19 :: rest) (envOfC nm (fnScope 34) L fa cd)) Q (Out w ((Fa dp un (some []) []).deeper (envOfC nm (fnScope 34) L fa cd)) (envOfC nm (fnScope 34) L fa cd) R) s := by
  obtain ⟨t1, e1⟩ := V.mode
  obtain ⟨t2, e2⟩ := V.wide
  obtain ⟨t3, e3⟩ := V.high
  obtain ⟨t4, e4⟩ := V.number
  have hb := fmB (z := nb) (k := 2) (by decide)
  have hmd : md = 0 ∨ md = 1 ∨ md = 2 ∨ md = 3 ∨ md = 4 := by omega
  rcases hmd with rfl | rfl | rfl | rfl | rfl
  · refine wpAny_execs_cons (law_s18_0 H e1 e2 e3 e4 fun h1 tk1 nw1 s1 F1 N1 => ?_)
    
    have H1 := H.next F1 N1 (fun _ h => nomatch h)
    refine wpAny_execs_cons (law_s19_0 (X := X) (Y := Y) (t1 := t1) (t2 := t2) (t3 := t3) (s := { s with heap := h1, toks := tk1 }) H1 (by walk_at "mine see") (by walk_at "mine see") (by walk_at "mine see") fun wd h2 tk2 nw2 s2 hw F2 N2 => ?_)
    exact next .none _ _ wd True _ h2 tk2 nw2 ⟨fun _ => by decide, fun _ => trivial⟩ (fun p hp => s2 p (s1 p hp)) (fun m2 a b c => .a a b c) hw (by walk_at "mine see") (by walk_at "mine see") (fun y a b => (if_neg b).trans (if_neg a)) (H1.next F2 N2 (fun _ h => nomatch h))
  · refine wpAny_execs_cons (law_s18_1 H e1 e2 e3 e4 fun sz h1 tk1 nw1 s1 hsz F1 N1 => ?_)
    obtain ⟨u1, u2, hsz⟩ := hsz
    have H1 := H.next F1 N1 (fun _ h => nomatch h)
    refine wpAny_execs_cons (law_s19_1 (X := X) (Y := Y) (t1 := t1) (t2 := t2) (t3 := t3) (s := { s with heap := h1, toks := tk1 }) H1 (by walk_at "mine see") (by walk_at "mine see") (by walk_at "mine see") fun wd h2 tk2 nw2 s2 hw F2 N2 => ?_)
    exact next (.ref sz) _ _ wd True _ h2 tk2 nw2 ⟨fun _ => by decide, fun _ => trivial⟩ (fun p hp => s2 p (s1 p hp)) (fun m2 a b c => .b (s2 _ hsz) a b c) hw (by walk_at "mine see") (by walk_at "mine see") (fun y a b => (if_neg b).trans (if_neg a)) (H1.next F2 N2 (fun _ h => nomatch h))
  · refine wpAny_execs_cons (law_s18_2 H e1 e2 e3 e4 fun sz h1 tk1 nw1 s1 hsz F1 N1 => ?_)
    obtain ⟨u1, u2, hsz⟩ := hsz
    have H1 := H.next F1 N1 (fun _ h => nomatch h)
    refine wpAny_execs_cons (law_s19_2 (X := X) (Y := Y) (t1 := t1) (t2 := t2) (t3 := t3) (s := { s with heap := h1, toks := tk1 }) H1 (by walk_at "mine see") (by walk_at "mine see") (by walk_at "mine see") fun wd h2 tk2 nw2 s2 hw F2 N2 => ?_)
    exact next (.ref sz) _ _ wd (X = X ∧ Y = Y) _ h2 tk2 nw2 ⟨fun _ => by decide, fun _ => ⟨rfl, rfl⟩⟩ (fun p hp => s2 p (s1 p hp)) (fun m2 a b c => .c (s2 _ hsz) a b c (by omega) (by omega) (by omega) (by omega)) hw (by walk_at "mine see") (by walk_at "mine see") (fun y a b => (if_neg b).trans (if_neg a)) (H1.next F2 N2 (fun _ h => nomatch h))
  · refine wpAny_execs_cons (law_s18_3 H e1 e2 e3 e4 fun sz h1 tk1 nw1 s1 hsz F1 N1 => ?_)
    obtain ⟨u1, u2, hsz⟩ := hsz
    have H1 := H.next F1 N1 (fun _ h => nomatch h)
    refine wpAny_execs_cons (law_s19_3 (X := X) (Y := Y) (t1 := t1) (t2 := t2) (t3 := t3) (s := { s with heap := h1, toks := tk1 }) H1 (by walk_at "mine see") (by walk_at "mine see") (by walk_at "mine see") fun wd h2 tk2 nw2 s2 hw F2 N2 => ?_)
    exact next (.ref sz) _ _ wd (X = X + nb.fmod 2 ∧ Y = Y + 1 - nb.fmod 2) _ h2 tk2 nw2 ⟨fun h => by omega, fun h => absurd h (by decide)⟩ (fun p hp => s2 p (s1 p hp)) (fun m2 a b c => .c (s2 _ hsz) a b c (by omega) (by omega) (by omega) (by omega)) hw (by walk_at "mine see") (by walk_at "mine see") (fun y a b => (if_neg b).trans (if_neg a)) (H1.next F2 N2 (fun _ h => nomatch h))
  · refine wpAny_execs_cons (law_s18_4 H e1 e2 e3 e4 fun sz h1 tk1 nw1 s1 hsz F1 N1 => ?_)
    obtain ⟨u1, u2, u3, hsz⟩ := hsz
    have H1 := H.next F1 N1 (fun _ h => nomatch h)
    refine wpAny_execs_cons (law_s19_4 (X := X) (Y := Y) (t1 := t1) (t2 := t2) (t3 := t3) (s := { s with heap := h1, toks := tk1 }) H1 (by walk_at "mine see") (by walk_at "mine see") (by walk_at "mine see") fun wd h2 tk2 nw2 s2 hw F2 N2 => ?_)
    exact next (.ref sz) _ _ wd False _ h2 tk2 nw2 ⟨fun h => h.elim, fun h => absurd h (by decide)⟩ (fun p hp => s2 p (s1 p hp)) (fun m2 a b c => .d (s2 _ hsz) a b c (by decide) (by decide)) hw (by walk_at "mine see") (by walk_at "mine see") (fun y a b => (if_neg b).trans (if_neg a)) (H1.next F2 N2 (fun _ h => nomatch h))
theorem law_21 {oc2 : Obj} {D : Addr} {its : List Value} {qs : List Int} {k : Nat} {rf al : Bool} {kc : Col} {vk : Value} (H : Here w h₀ L s.heap m news [] [] p loose mean mg mb (fnScope 34) dp un 40) (hc2 : (L + 1 + 1, oc2) ∈ news) (hoc2 : oc2.data = .cell (some (.ref D))) (hD : (D, W.listOf its.toArray k) ∈ news) (hdi : IntsAre its qs) (hil : its.length ≤ 4) (hi0 : 0 < its.length) (hql : qs.length ≤ 4) (hq0 : 0 < qs.length) (hqb : ∀ q ∈ qs, -1 ≤ q ∧ q ≤ 17) (v1 : m "refused" = some (.bool rf)) (v2 : m "alpha" = some (.bool al)) (v3 : m "key" = some vk) (hk : ColIs news vk kc)
    (hret : ∀ b h' tk', (b = true ↔ rf = true ∨ (∃ q ∈ qs, q < 1) ∨ (∃ q ∈ qs, 16 < q) ∨ (al = true ∧ kc ≠ .no)) → Fr h₀ L h' (fun y => if y = "refused" then some (.bool b) else m y) → News h₀ L h' news → Q .next { s with heap := h', toks := tk' }) :
    wpAny (model rw_ar0036_02.row.prog w) ((Fa dp un (some []) []).deeper (envOfC nm (fnScope 34) L fa cd)) (exec (fnAt 34 21) (envOfC nm (fnScope 34) L fa cd)) Q (Out w ((Fa dp un (some []) []).deeper (envOfC nm (fnScope 34) L fa cd)) (envOfC nm (fnScope 34) L fa cd) R) s := by
  cases hk with
  | no => exact law_s21n H hc2 hoc2 hD hdi hil hi0 hql hq0 hqb v1 v2 v3 fun b h' tk' hb F' N' => hret b h' tk' (by rw [hb]; simp) F' N'
  | num n t => exact law_s21i H hc2 hoc2 hD hdi hil hi0 hql hq0 hqb v1 v2 v3 fun b h' tk' hb F' N' => hret b h' tk' (by rw [hb]; simp) F' N'
  | tup a b => exact law_s21r H hc2 hoc2 hD hdi hil hi0 hql hq0 hqb v1 v2 v3 fun b h' tk' hb F' N' => hret b h' tk' (by rw [hb]; simp) F' N'
theorem law_rf {ls : Addr} {md X Y sd nb fm : Int} {al g : Bool} {pl : Int} {oc2 : Obj} {D : Addr} {its : List Value} {qs : List Int} {k : Nat} {cl gr : Int} {kc : Col} {vk : Value} (H : Here w h₀ L s.heap m news [] [] p loose mean mg mb (fnScope 34) dp un 40) (V : Vars m ls md X Y sd nb fm al g pl) (hc2 : (L + 1 + 1, oc2) ∈ news) (hoc2 : oc2.data = .cell (some (.ref D))) (hD : (D, W.listOf its.toArray k) ∈ news) (hdi : IntsAre its qs) (hil : its.length ≤ 4) (hi0 : 0 < its.length) (hql : qs.length ≤ 4) (hq0 : 0 < qs.length) (hqb : ∀ q ∈ qs, -1 ≤ q ∧ q ≤ 17) (v3 : m "key" = some vk) (hk : ColIs news vk kc) (vc : ∃ t, m "clear" = some (.int cl t)) (vg : ∃ t, m "ground" = some (.int gr t))
    (next : ∀ rf m' h' tk', (rf = true ↔ (2 < md ∨ X ≤ 0 ∨ Y ≤ 0 ∨ 2147483648 ≤ X ∨ 2147483648 ≤ Y) ∨ (∃ q ∈ qs, q < 1) ∨ (∃ q ∈ qs, 16 < q) ∨ (al = true ∧ kc ≠ .no) ∨ 3 < fm ∨ (cl = 3 ∨ cl = 4) ∨ (gr = 3 ∨ gr = 4)) → m' "refused" = some (.bool rf) → (∀ y : PySem.Str, y ≠ "refused" → m' y = m y) → Here w h₀ L h' m' news [] [] p loose mean mg mb (fnScope 34) dp un 40 → wpAny (model rw_ar0036_02.row.prog w) ((Fa dp un (some []) []).deeper (envOfC nm (fnScope 34) L fa cd)) (execs (rest) (envOfC nm (fnScope 34) L fa cd)) Q (Out w ((Fa dp un (some []) []).deeper (envOfC nm (fnScope 34) L fa cd)) (envOfC nm (fnScope 34) L fa cd) R) { s with heap := h', toks := tk' }) :
    wpAny (model rw_ar0036_02.row.prog w) ((Fa dp un (some []) []).deeper (envOfC nm (fnScope 34) L fa cd)) (execs (fnAt 34 20 :: fnAt 34 21 :: fnAt 34 22 :: rest) (envOfC nm (fnScope 34) L fa cd)) Q (Out w ((Fa dp un (some []) []).deeper (envOfC nm (fnScope 34) L fa cd)) (envOfC nm (fnScope 34) L fa cd) R) s := by
  obtain ⟨t1, e1⟩ := V.mode
  obtain ⟨t2, e2⟩ := V.wide
  obtain ⟨t3, e3⟩ := V.high
  obtain ⟨t4, e4⟩ := V.form
  obtain ⟨t5, e5⟩ := vc
  obtain ⟨t6, e6⟩ := vg
  have e7 := V.alpha
  refine wpAny_execs_cons (law_s20 (B := 2147483648) H rfl e1 e2 e3 fun r1 h1 tk1 b1 F1 N1 => ?_)
  have H1 := H.now F1 N1
  refine wpAny_execs_cons (law_21 (rf := r1) (al := al) (s := { s with heap := h1, toks := tk1 }) H1 hc2 hoc2 hD hdi hil hi0 hql hq0 hqb (by walk_at "mine see") (by walk_at "mine see") (by walk_at "mine see") hk fun r2 h2 tk2 b2 F2 N2 => ?_)
  have H2 := H1.now F2 N2
  refine wpAny_execs_cons (law_s22 (fm := fm) (cl := cl) (gr := gr) (rf := r2) (t1 := t4) (t2 := t5) (t3 := t6) (s := { s with heap := h2, toks := tk2 }) H2 (by walk_at "mine see") (by walk_at "mine see") (by walk_at "mine see") (by walk_at "mine see") fun r3 h3 tk3 b3 F3 N3 => ?_)
  refine next r3 _ h3 tk3 ?_ (by walk_at "mine see") (fun y a => (if_neg a).trans ((if_neg a).trans (if_neg a))) (H2.now F3 N3)
  rw [b3, b2, b1]
  simp only [or_assoc]
theorem law_23 {oc2 : Obj} {D : Addr} {its : List Value} {qs : List Int} {k : Nat} {q : Int} {uq : Tok} {rf al g : Bool} {kc : Col} {vk : Value} {lp : Addr} (H : Here w h₀ L s.heap m news [] [] p loose mean mg mb (fnScope 34) dp un 40) (hc2 : (L + 1 + 1, oc2) ∈ news) (hoc2 : oc2.data = .cell (some (.ref D))) (hD : (D, W.listOf [Value.int q uq].toArray k) ∈ news) (v0 : m "palette" = some (.ref lp)) (v1 : m "refused" = some (.bool rf)) (v2 : m "alpha" = some (.bool al)) (v4 : m "grey" = some (.bool g)) (v3 : m "key" = some vk) (hk : ColIs news vk kc)
    (hret : ∀ b h' tk', (b = true ↔ rf = true ∨ ¬ (q = 1 ∨ q = 2 ∨ q = 4 ∨ q = 8) ∨ kc ≠ .no ∨ al = true ∨ g = true) → Fr h₀ L h' (fun y => if y = "refused" then some (.bool b) else m y) → News h₀ L h' news → Q .next { s with heap := h', toks := tk' }) :
    wpAny (model rw_ar0036_02.row.prog w) ((Fa dp un (some []) []).deeper (envOfC nm (fnScope 34) L fa cd)) (exec (fnAt 34 23) (envOfC nm (fnScope 34) L fa cd)) Q (Out w ((Fa dp un (some []) []).deeper (envOfC nm (fnScope 34) L fa cd)) (envOfC nm (fnScope 34) L fa cd) R) s := by
  cases hk with
  | no => exact law_s23n H hc2 hoc2 hD v0 v1 v2 v4 v3 fun b h' tk' hb F' N' => hret b h' tk' (by rw [hb]; simp) F' N'
  | num n t => exact law_s23i H hc2 hoc2 hD v0 v1 v2 v4 v3 fun b h' tk' hb F' N' => hret b h' tk' (by rw [hb]; simp) F' N'
  | tup a b => exact law_s23r H hc2 hoc2 hD v0 v1 v2 v4 v3 fun b h' tk' hb F' N' => hret b h' tk' (by rw [hb]; simp) F' N'
end
end Mine
end
section
theorem Mine.k25 : True := by
 k_with "s mine mem" => (first | assumption | exact .head _ | (refine .tail _ ?_; walk_at "mine mem"))
 trivial
local macro_rules | `(tactic| walk_at $s:str) => Mine.hand "i72 " s
theorem Mine.k26 : True := by
 k_with "i72 binaryOp Pow int int" => ((k_here; (with_reducible show wpAny _ _ (binaryOp _ _ (Value.int 32 _)) _ _ _); k_dflt (refine' Mine.pow32 ?hB ?_; (case hB => assumption))))
 k_with "i72 binaryOp Pow int int" => ((k_here; (with_reducible show wpAny _ _ (binaryOp _ _ (Value.int 31 _)) _ _ _); k_dflt (refine' Mine.pow31 ?hB ?_; (case hB => assumption))))
 k_with "i72 eval ListComp" => ((k_here; lct_look; k_dflt (refine LCt.ListComp_T (F₀ := by k_asm) (by with_unfolding_all rfl) (by decide) (by rfl) (by decide) (by rfl) ?_)))
 k_with "i72 call builtin:min" => ((k_here; (with_reducible show wpAny _ _ (call (Value.builtin _) [Value.ref _]) _ _ _); k_dflt (refine' Mine.min_lst ?h ?F ?N ?m ?i ?n ?_; (case F => k_asm); (case N => k_asm); (case h => rfl); (case m => walk_at "mine mem"); (case i => assumption); (case n => first | assumption | exact Mine.f5_pos hq2)); intro h' M' t' tk' F' N' a' b'; have emin' := Mine.ex_min a' b'))
 k_with "i72 call builtin:max" => ((k_here; (with_reducible show wpAny _ _ (call (Value.builtin _) [Value.ref _]) _ _ _); k_dflt (refine' Mine.max_lst ?h ?F ?N ?m ?i ?n ?_; (case F => k_asm); (case N => k_asm); (case h => rfl); (case m => walk_at "mine mem"); (case i => assumption); (case n => first | assumption | exact Mine.f5_pos hq2)); intro h' M' t' tk' F' N' a' b'; have emax' := Mine.ex_max a' b'))
 k_with "i72 subscriptTail" => ((k_here; (with_reducible show wpAny _ _ (subscriptTail _ _ (Value.ref _) (Value.int _ _)) _ _ _); k_dflt (refine' Mine.item_lst ?N ?m ?y0 ?y1 ?x ?_ ?hs; (case N => k_asm); (case m => walk_at "mine mem"); (case y0 => decide); (case y1 => decide); (case x => rfl); (case hs => with_unfolding_all rfl); k_whole)))
 k_with "i72 CompSrcT" => ((k_here; k_dflt (refine LCt.CompSrcT.ledger (by rfl) (by k_asm) (by k_asm) (by walk_at "mine mem") ?zs3 ?_); (case zs3 => (rw [List.size_toArray, sizeLine_eq]; omega)); intro g'; refine' Mine.filt (ns := qs) (fun v => v != f) ?zf1 ?zf2 ?zf3 ?zf4 ?zf5 ?zf6; (case zf1 => (rw [List.size_toArray]; exact hdi.length)); (case zf2 => exact Mine.arr_at hdi); (case zf3 => exact .inr ⟨_, by walk_at "mine mem", rfl, _, rfl⟩); (case zf5 => (intro v I oI C oC D9 ys m₂ h tk E' Q' hC hx F N hq; refine LCgL.ld_own N (.tail _ (.head _)) hC hx ?_; exact hq)); (case' zf4 => (intro k9 t9 I oI C oC D9 ys m₂ h tk E' Q' hk9 hC hx F N hq)); (case' zf6 => (intro ys i9; (unfold LCg.FinE); intro D' h' tk' F' N' o1'; (try simp only [LCg.Off1, and_true] at o1')))))
 k_with "i72 compareOp Eq ref ref" => ((k_here; (with_reducible show wpAny _ _ (compareOp CmpOp.Eq (Value.ref D') (Value.ref _)) _ _ _); k_dflt (refine' Mine.eq_nil ?ze1 ?ze2 ?ze3 ?ze4 ?ze5 ?_; (case ze1 => k_asm); (case ze2 => walk_at "mine mem"); (case ze3 => exact i9); (case ze4 => walk_at "mine mem"); (case ze5 => ke_room))))
 k_with "i72 exec Assign cons ListComp" => ((k_here; k_dflt (refine LCg.Assign_ListComp_U (F₀ := by k_asm) (by rfl) (by with_unfolding_all rfl) (by rfl) (by decide) (by rfl) (by decide) (by rfl) (by rfl) (by rfl) ?_)))
 k_with "i72 CompSrc" => ((k_here; k_dflt ((refine LCg.CompSrc.ledger (by rfl) (by k_asm) (by k_asm) (by walk_at "mine mem") ?zr3 ?_); (case zr3 => (rw [List.size_toArray, sizeLine_eq]; omega)); intro g'; (refine' Mine.comp_ind (fun i ys nw => (∀ p ∈ news, p ∈ nw) ∧ Mine.PalAre nw ys ((qs.take i).map fun q => [q, f])) ?zr4 ?zr5 ?zr6); (case' zr6 => exact ⟨fun p hp => by walk_at "mine mem", .nil⟩); (case' zr5 => (intro ys nw inv; obtain ⟨sub9, pal9⟩ := inv; rw [List.size_toArray, List.take_of_length_le (by rw [hdi.length]; exact Nat.le_refl _)] at pal9; (unfold LCg.FinA); intro D' h' tk' F' N' o1')); (case' zr4 => (intro i ys nw v I oI C oC D9 m₂ h tk E' rest hi9 inv hP hC hx F N off ne hr; obtain ⟨sub9, pal9⟩ := inv; obtain ⟨k9, t9, hv9, hd9, hm9⟩ := Mine.arr_at hdi i v hP; subst hv9; have hc9 := sub9 _ hc3)))))
 k_with "i72 CompEnd" => ((k_dflt (refine' Mine.compEnd1 ?ceF ?ceN ?ceo ?cet ?ceS ?ce9; (case ceF => k_asm); (case ceN => k_asm); (case ceo => assumption); (case cet => exact ⟨by k_ne, by k_ne, by k_ne⟩); (case ceS => exact .inr ⟨_, .tail _ (sub9 _ hD), rfl, _, rfl⟩); (case ce9 => (refine hr _ _ ⟨fun p hp => .tail _ (sub9 p hp), ?_⟩; rw [Mine.take_snoc hd9, List.map_append]; exact (pal9.mono (fun p hp => .tail _ hp)).app (.cons (.head _) (.cons _ _ (.cons _ _ .nil)) .nil))))))
 trivial
local macro_rules | `(tactic| k_mem) => `(tactic| walk_at "mine mem")
theorem Mine.law_s27 {w : World} {p : Program} {loose : List Str} {mean : ExcName → Option Value} {mg mb : Str → Option Value}
 {dp un : Nat} {nm : Str} {fa : Addr} {cd : Value} {l : List Env} {h₀ : Heap} {L : Addr} {m : Str → Option Value} {news frs : Mine.Led} {s : Shared} {Q : Flow → Shared → Prop} {R : Result → Shared → Prop}
 {oc2 oc3 : Obj} {D : Addr} {its : List Value} {qs : List Int} {k : Nat} {f : Int} {tf : Tok}  (H : Mine.Here w h₀ L s.heap m news frs l p loose mean mg mb (Mine.fnScope 34) dp un 40)
 (hc2 : (L + 1 + 1, oc2) ∈ news) (hoc2 : oc2.data = .cell (some (.ref D))) (hc3 : (L + 1 + 1 + 1, oc3) ∈ news) (hoc3 : oc3.data = .cell (some (.int f tf))) (hD : (D, W.listOf its.toArray k) ∈ news) (hdi : IntsAre its qs) (hil : its.length ≤ 4) (hret0 : (∀ q ∈ qs, q = f) → ∀ h' tk' nw, (∀ p ∈ news, p ∈ nw) → Fr h₀ L h' (fun y => if y = "pairs" then some .none else m y) → News h₀ L h' nw → Q .next { s with heap := h', toks := tk' }) (hret1 : (∃ q ∈ qs, q ≠ f) → ∀ P h' tk' nw, (∀ p ∈ news, p ∈ nw) → Mine.PalList nw P (qs.map fun q => [q, f]) → Fr h₀ L h' (fun y => if y = "pairs" then some (.ref P) else m y) → News h₀ L h' nw → Q .next { s with heap := h', toks := tk' }) :
 wpAny (model rw_ar0036_02.row.prog w) ((Mine.Fa dp un (some []) l).deeper (envOfC nm (Mine.fnScope 34) L fa cd)) (exec (Mine.fnAt 34 27) (envOfC nm (Mine.fnScope 34) L fa cd)) Q (Mine.Out w ((Mine.Fa dp un (some []) l).deeper (envOfC nm (Mine.fnScope 34) L fa cd)) (envOfC nm (Mine.fnScope 34) L fa cd) R) s := by
 obtain ⟨F, X, N, T, Fs, sub, hk, hdp, hun⟩ := H
 (conv => arg 3; arg 1; whnf)
 walk_at "mine lit"
 w_on
 w_strict (
  revert X
  k_fill
  intro X
  
  k_steps)
 all_goals first | exact (Str.ofString "") | exact (0 : Nat) | exact Value.none | skip
 all_goals first | exact hq _ _ (by assumption) (by assumption) | (refine' hret0 ?y1 _ _ _ ?b ?F ?N; (case F => assumption); (case N => assumption); (case b => (intro p hp; walk_at "mine mem")); (case y1 => exact Mine.filt_nil (by assumption))) | (refine' hret1 ?y1 _ _ _ _ ?b ?y2 ?F ?N; (case F => assumption); (case N => assumption); (case b => (intro p hp; exact .tail _ (sub9 p hp))); (case y1 => exact Mine.filt_cons (by assumption)); (case y2 => exact ⟨_, _, .head _, pal9.mono (fun p hp => .tail _ hp)⟩)) | (fail "left")
end
section
variable {w : World} {p : Program} {loose : List Str} {mean : ExcName → Option Value} {mg mb : Str → Option Value}
variable {dp un : Nat} {nm : Str} {fa : Addr} {cd : Value} {l : List Env} {h₀ : Heap} {L : Addr} {m : Str → Option Value} {news frs : Mine.Led} {s : Shared} {Q : Flow → Shared → Prop} {R : Result → Shared → Prop}
local macro_rules | `(tactic| walk_at $s:str) => Mine.hand "i73 " s
local macro_rules | `(tactic| walk_at "p") => Mine.pad
theorem Mine.k27 : True := by
 k_with "i73 binaryOp Pow int int" => ((k_here; (with_reducible show wpAny _ _ (binaryOp _ _ (Value.int 32 _)) _ _ _); k_dflt (refine' Mine.pow32 ?hB ?_; (case hB => assumption))))
 k_with "i73 binaryOp Pow int int" => ((k_here; (with_reducible show wpAny _ _ (binaryOp _ _ (Value.int 31 _)) _ _ _); k_dflt (refine' Mine.pow31 ?hB ?_; (case hB => assumption))))
 k_with "i73 eval ListComp" => ((k_here; lct_look; k_dflt (refine LCt.ListComp_T (F₀ := by k_asm) (by with_unfolding_all rfl) (by decide) (by rfl) (by decide) (by rfl) ?_)))
 k_with "i73 call builtin:min" => ((k_here; (with_reducible show wpAny _ _ (call (Value.builtin _) [Value.ref _]) _ _ _); k_dflt (refine' Mine.min_lst ?h ?F ?N ?m ?i ?n ?_; (case F => k_asm); (case N => k_asm); (case h => rfl); (case m => walk_at "mine mem"); (case i => assumption); (case n => first | assumption | exact Mine.f5_pos hq2)); intro h' M' t' tk' F' N' a' b'; have emin' := Mine.ex_min a' b'))
 k_with "i73 call builtin:max" => ((k_here; (with_reducible show wpAny _ _ (call (Value.builtin _) [Value.ref _]) _ _ _); k_dflt (refine' Mine.max_lst ?h ?F ?N ?m ?i ?n ?_; (case F => k_asm); (case N => k_asm); (case h => rfl); (case m => walk_at "mine mem"); (case i => assumption); (case n => first | assumption | exact Mine.f5_pos hq2)); intro h' M' t' tk' F' N' a' b'; have emax' := Mine.ex_max a' b'))
 k_with "i73 subscriptTail" => ((k_here; (with_reducible show wpAny _ _ (subscriptTail _ _ (Value.ref _) (Value.int _ _)) _ _ _); k_dflt (refine' Mine.item_lst ?N ?m ?y0 ?y1 ?x ?_ ?hs; (case N => k_asm); (case m => walk_at "mine mem"); (case y0 => decide); (case y1 => decide); (case x => rfl); (case hs => with_unfolding_all rfl); k_whole)))
 trivial
local macro_rules | `(tactic| k_mem) => `(tactic| walk_at "mine mem")
theorem Mine.law_s25
  (H : Mine.Here w h₀ L s.heap m news frs l p loose mean mg mb (Mine.fnScope 34) dp un 40)
 (v0 : m "refused" = some (.bool false)) (hret : ∀ h' tk', Fr h₀ L h' m → News h₀ L h' news → Q .next { s with heap := h', toks := tk' }) :
 wpAny (model rw_ar0036_02.row.prog w) ((Mine.Fa dp un (some []) l).deeper (envOfC nm (Mine.fnScope 34) L fa cd)) (exec (Mine.fnAt 34 25) (envOfC nm (Mine.fnScope 34) L fa cd)) Q (Mine.Out w ((Mine.Fa dp un (some []) l).deeper (envOfC nm (Mine.fnScope 34) L fa cd)) (envOfC nm (Mine.fnScope 34) L fa cd) R) s := by
 obtain ⟨F, X, N, T, Fs, sub, hk, hdp, hun⟩ := H
 (conv => arg 3; arg 1; whnf)
 walk_at "mine lit"
 w_on
 w_strict (
  revert X
  k_fill
  intro X
  
  k_steps)
 all_goals first | exact (Str.ofString "") | exact (0 : Nat) | exact Value.none | skip
 all_goals ((try dsimp only); first | exact hret _ _ (by assumption) (by assumption) | (exfalso; simp_all; done) | (exfalso; omega) | (fail "left"))
theorem Mine.k28 : True := by
 k_with "i73 compareOp NotEq" => ((k_here; (with_reducible show wpAny _ _ (compareOp CmpOp.NotEq rr _) _ _ _); k_dflt (refine' Mine.ne_dat ?zg1 hr1 hr2 hr3 ?zg5 ?_; (case zg1 => k_asm); (case zg5 => ke_room))))
 trivial
local macro_rules | `(tactic| k_handed) => `(tactic| assumption)
theorem Mine.law_s28
 {x d : Addr} {es : List DictEntry} {n : Nat} {X Y lc tg pl cp : Int} {rr vt vb vp : Value} {ux uy ut uc u1 u2 : Tok} {g al cm : Bool} {oc3 : Obj} {t2 t3 tf : Tok} {vpr : Value} {dr : Dat}  (H : Mine.Here w h₀ L s.heap m news frs l p loose mean mg mb (Mine.fnScope 34) dp un 40)
 (hx : (x, instObj 359 d) ∈ news) (hd9 : (d, dictOf es n) ∈ news) (he : Mine.EntsAre w es [("rescale", rr), ("width", Value.int X ux), ("height", Value.int Y uy), ("transparent", vt), ("background", vb), ("greyscale", Value.bool g), ("alpha", Value.bool al), ("colormap", Value.bool cm), ("bitdepth", Value.int tg ut), ("compression", .none), ("chunk_limit", (.int 1048576 712)), ("interlace", Value.bool (lc != 0)), ("palette", vp), ("x_pixels_per_unit", .none), ("y_pixels_per_unit", .none), ("unit_is_meter", Value.bool false), ("color_type", Value.int (if cm then 3 else (if g then 0 else 2) + (if al then 4 else 0)) uc), ("color_planes", (Value.int cp u2)), ("planes", (Value.int pl u1))]) (v1 : m "writer" = some (.ref x)) (v2 : m "wide" = some (.int X t2)) (v3 : m "high" = some (.int Y t3)) (hc3 : (L + 1 + 1 + 1, oc3) ∈ news) (hoc3 : oc3.data = .cell (some (.int tg tf))) (v4 : m "pairs" = some vpr) (hr1 : DatIn news rr dr) (hr2 : DatIn news vpr dr) (hr3 : kqdOk 8 dr = true) (hh : handedIn rr = true) (hret : ∀ h' tk', Fr h₀ L h' m → News h₀ L h' news → Q .next { s with heap := h', toks := tk' }) :
 wpAny (model rw_ar0036_02.row.prog w) ((Mine.Fa dp un (some []) l).deeper (envOfC nm (Mine.fnScope 34) L fa cd)) (exec (Mine.fnAt 34 28) (envOfC nm (Mine.fnScope 34) L fa cd)) Q (Mine.Out w ((Mine.Fa dp un (some []) l).deeper (envOfC nm (Mine.fnScope 34) L fa cd)) (envOfC nm (Mine.fnScope 34) L fa cd) R) s := by
 obtain ⟨F, X, N, T, Fs, sub, hk, hdp, hun⟩ := H
 (conv => arg 3; arg 1; whnf)
 walk_at "mine lit"
 w_on
 w_strict (
  revert X
  k_fill
  intro X
  
  k_steps)
 all_goals first | exact (Str.ofString "") | exact (0 : Nat) | exact Value.none | skip
 all_goals ((try dsimp only); first | exact hret _ _ (by assumption) (by assumption) | (exfalso; simp_all; done) | (exfalso; omega) | (fail "left"))
theorem Mine.k29 : True := by
 k_with "i73 compareOp NotEq" => ((k_here; (with_reducible show wpAny _ _ (compareOp CmpOp.NotEq vp _) _ _ _); k_dflt (refine' Mine.ne_dat ?zg1 hr1 hr2 hr3 ?zg5 ?_; (case zg1 => k_asm); (case zg5 => ke_room))))
 trivial
local macro_rules | `(tactic| k_handed) => `(tactic| assumption)
theorem Mine.law_s29n
 {x d : Addr} {es : List DictEntry} {n : Nat} {X Y lc tg pl cp : Int} {rr vt vb vp : Value} {ux uy ut uc u1 u2 : Tok} {g al : Bool} {dr : Dat}  (H : Mine.Here w h₀ L s.heap m news frs l p loose mean mg mb (Mine.fnScope 34) dp un 40)
 (hx : (x, instObj 359 d) ∈ news) (hd9 : (d, dictOf es n) ∈ news) (he : Mine.EntsAre w es [("rescale", rr), ("width", Value.int X ux), ("height", Value.int Y uy), ("transparent", vt), ("background", vb), ("greyscale", Value.bool g), ("alpha", Value.bool al), ("colormap", Value.bool false), ("bitdepth", Value.int tg ut), ("compression", .none), ("chunk_limit", (.int 1048576 712)), ("interlace", Value.bool (lc != 0)), ("palette", vp), ("x_pixels_per_unit", .none), ("y_pixels_per_unit", .none), ("unit_is_meter", Value.bool false), ("color_type", Value.int (if false then 3 else (if g then 0 else 2) + (if al then 4 else 0)) uc), ("color_planes", (Value.int cp u2)), ("planes", (Value.int pl u1))]) (v1 : m "writer" = some (.ref x)) (v2 : m "grey" = some (.bool g)) (v3 : m "alpha" = some (.bool al)) (v4 : m "palette" = some (.none)) (hr1 : DatIn news vp dr) (hr2 : DatIn news (.none) dr) (hr3 : kqdOk 8 dr = true) (hh : handedIn vp = true) (hret : ∀ h' tk', Fr h₀ L h' m → News h₀ L h' news → Q .next { s with heap := h', toks := tk' }) :
 wpAny (model rw_ar0036_02.row.prog w) ((Mine.Fa dp un (some []) l).deeper (envOfC nm (Mine.fnScope 34) L fa cd)) (exec (Mine.fnAt 34 29) (envOfC nm (Mine.fnScope 34) L fa cd)) Q (Mine.Out w ((Mine.Fa dp un (some []) l).deeper (envOfC nm (Mine.fnScope 34) L fa cd)) (envOfC nm (Mine.fnScope 34) L fa cd) R) s := by
 obtain ⟨F, X, N, T, Fs, sub, hk, hdp, hun⟩ := H
 (conv => arg 3; arg 1; whnf)
 walk_at "mine lit"
 w_on
 w_strict (
  revert X
  k_fill
  intro X
  
  k_steps)
 all_goals first | exact (Str.ofString "") | exact (0 : Nat) | exact Value.none | skip
 all_goals ((try dsimp only); first | exact hret _ _ (by assumption) (by assumption) | (exfalso; simp_all; done) | (exfalso; omega) | (fail "left"))
theorem Mine.k30 : True := by
 k_with "i73 compareOp NotEq" => ((k_here; (with_reducible show wpAny _ _ (compareOp CmpOp.NotEq vp _) _ _ _); k_dflt (refine' Mine.ne_dat ?zg1 hr1 hr2 hr3 ?zg5 ?_; (case zg1 => k_asm); (case zg5 => ke_room))))
 trivial
local macro_rules | `(tactic| k_handed) => `(tactic| assumption)
theorem Mine.law_s29l
 {x d : Addr} {es : List DictEntry} {n : Nat} {X Y lc tg pl cp : Int} {rr vt vb vp : Value} {ux uy ut uc u1 u2 : Tok} {g al : Bool} {dr : Dat} {lp : Addr}  (H : Mine.Here w h₀ L s.heap m news frs l p loose mean mg mb (Mine.fnScope 34) dp un 40)
 (hx : (x, instObj 359 d) ∈ news) (hd9 : (d, dictOf es n) ∈ news) (he : Mine.EntsAre w es [("rescale", rr), ("width", Value.int X ux), ("height", Value.int Y uy), ("transparent", vt), ("background", vb), ("greyscale", Value.bool g), ("alpha", Value.bool al), ("colormap", Value.bool true), ("bitdepth", Value.int tg ut), ("compression", .none), ("chunk_limit", (.int 1048576 712)), ("interlace", Value.bool (lc != 0)), ("palette", vp), ("x_pixels_per_unit", .none), ("y_pixels_per_unit", .none), ("unit_is_meter", Value.bool false), ("color_type", Value.int (if true then 3 else (if g then 0 else 2) + (if al then 4 else 0)) uc), ("color_planes", (Value.int cp u2)), ("planes", (Value.int pl u1))]) (v1 : m "writer" = some (.ref x)) (v2 : m "grey" = some (.bool g)) (v3 : m "alpha" = some (.bool al)) (v4 : m "palette" = some (.ref lp)) (hr1 : DatIn news vp dr) (hr2 : DatIn news (.ref lp) dr) (hr3 : kqdOk 8 dr = true) (hh : handedIn vp = true) (hret : ∀ h' tk', Fr h₀ L h' m → News h₀ L h' news → Q .next { s with heap := h', toks := tk' }) :
 wpAny (model rw_ar0036_02.row.prog w) ((Mine.Fa dp un (some []) l).deeper (envOfC nm (Mine.fnScope 34) L fa cd)) (exec (Mine.fnAt 34 29) (envOfC nm (Mine.fnScope 34) L fa cd)) Q (Mine.Out w ((Mine.Fa dp un (some []) l).deeper (envOfC nm (Mine.fnScope 34) L fa cd)) (envOfC nm (Mine.fnScope 34) L fa cd) R) s := by
 obtain ⟨F, X, N, T, Fs, sub, hk, hdp, hun⟩ := H
 (conv => arg 3; arg 1; whnf)
 walk_at "mine lit"
 w_on
 w_strict (
  revert X
  k_fill
  intro X
  
  k_steps)
 all_goals first | exact (Str.ofString "") | exact (0 : Nat) | exact Value.none | skip
 all_goals ((try dsimp only); first | exact hret _ _ (by assumption) (by assumption) | (exfalso; simp_all; done) | (exfalso; omega) | (fail "left"))
theorem Mine.law_s30t
 {x d : Addr} {es : List DictEntry} {n : Nat} {X Y lc tg pl cp : Int} {rr vt vb vp : Value} {ux uy ut uc u1 u2 : Tok} {al : Bool} {t2 t3 : Tok}  (H : Mine.Here w h₀ L s.heap m news frs l p loose mean mg mb (Mine.fnScope 34) dp un 40)
 (hx : (x, instObj 359 d) ∈ news) (hd9 : (d, dictOf es n) ∈ news) (he : Mine.EntsAre w es [("rescale", rr), ("width", Value.int X ux), ("height", Value.int Y uy), ("transparent", vt), ("background", vb), ("greyscale", Value.bool true), ("alpha", Value.bool al), ("colormap", Value.bool false), ("bitdepth", Value.int tg ut), ("compression", .none), ("chunk_limit", (.int 1048576 712)), ("interlace", Value.bool (lc != 0)), ("palette", vp), ("x_pixels_per_unit", .none), ("y_pixels_per_unit", .none), ("unit_is_meter", Value.bool false), ("color_type", Value.int (if false then 3 else (if true then 0 else 2) + (if al then 4 else 0)) uc), ("color_planes", (Value.int 1 u2)), ("planes", (Value.int pl u1))]) (v1 : m "writer" = some (.ref x)) (v2 : m "grey" = some (.bool true)) (v3 : m "planes" = some (.int pl t2)) (v4 : m "palette" = some (.none)) (v5 : m "lace" = some (.int lc t3)) (hret : ∀ h' tk', Fr h₀ L h' m → News h₀ L h' news → Q .next { s with heap := h', toks := tk' }) :
 wpAny (model rw_ar0036_02.row.prog w) ((Mine.Fa dp un (some []) l).deeper (envOfC nm (Mine.fnScope 34) L fa cd)) (exec (Mine.fnAt 34 30) (envOfC nm (Mine.fnScope 34) L fa cd)) Q (Mine.Out w ((Mine.Fa dp un (some []) l).deeper (envOfC nm (Mine.fnScope 34) L fa cd)) (envOfC nm (Mine.fnScope 34) L fa cd) R) s := by
 obtain ⟨F, X, N, T, Fs, sub, hk, hdp, hun⟩ := H
 (conv => arg 3; arg 1; whnf)
 walk_at "mine lit"
 w_on
 w_strict (
  revert X
  k_fill
  intro X
  
  k_steps)
 all_goals first | exact (Str.ofString "") | exact (0 : Nat) | exact Value.none | skip
 all_goals ((try dsimp only); first | exact hret _ _ (by assumption) (by assumption) | (exfalso; simp_all; done) | (exfalso; omega) | (fail "left"))
theorem Mine.law_s31tt
 {x d : Addr} {es : List DictEntry} {n : Nat} {X Y lc tg pl cp : Int} {rr vt vb vp : Value} {ux uy ut uc u1 u2 : Tok}  (H : Mine.Here w h₀ L s.heap m news frs l p loose mean mg mb (Mine.fnScope 34) dp un 40)
 (hx : (x, instObj 359 d) ∈ news) (hd9 : (d, dictOf es n) ∈ news) (he : Mine.EntsAre w es [("rescale", rr), ("width", Value.int X ux), ("height", Value.int Y uy), ("transparent", vt), ("background", vb), ("greyscale", Value.bool true), ("alpha", Value.bool true), ("colormap", Value.bool false), ("bitdepth", Value.int tg ut), ("compression", .none), ("chunk_limit", (.int 1048576 712)), ("interlace", Value.bool (lc != 0)), ("palette", vp), ("x_pixels_per_unit", .none), ("y_pixels_per_unit", .none), ("unit_is_meter", Value.bool false), ("color_type", Value.int (if false then 3 else (if true then 0 else 2) + (if true then 4 else 0)) uc), ("color_planes", (Value.int cp u2)), ("planes", (Value.int pl u1))]) (v1 : m "writer" = some (.ref x)) (v2 : m "grey" = some (.bool true)) (v3 : m "alpha" = some (.bool true)) (v4 : m "palette" = some (.none)) (hret : ∀ h' tk', Fr h₀ L h' m → News h₀ L h' news → Q .next { s with heap := h', toks := tk' }) :
 wpAny (model rw_ar0036_02.row.prog w) ((Mine.Fa dp un (some []) l).deeper (envOfC nm (Mine.fnScope 34) L fa cd)) (exec (Mine.fnAt 34 31) (envOfC nm (Mine.fnScope 34) L fa cd)) Q (Mine.Out w ((Mine.Fa dp un (some []) l).deeper (envOfC nm (Mine.fnScope 34) L fa cd)) (envOfC nm (Mine.fnScope 34) L fa cd) R) s := by
 obtain ⟨F, X, N, T, Fs, sub, hk, hdp, hun⟩ := H
 (conv => arg 3; arg 1; whnf)
 walk_at "mine lit"
 w_on
 w_strict (
  revert X
  k_fill
  intro X
  
  k_steps)
 all_goals first | exact (Str.ofString "") | exact (0 : Nat) | exact Value.none | skip
 all_goals ((try dsimp only); first | exact hret _ _ (by assumption) (by assumption) | (exfalso; simp_all; done) | (exfalso; omega) | (fail "left"))
theorem Mine.law_s31tf
 {x d : Addr} {es : List DictEntry} {n : Nat} {X Y lc tg pl cp : Int} {rr vt vb vp : Value} {ux uy ut uc u1 u2 : Tok}  (H : Mine.Here w h₀ L s.heap m news frs l p loose mean mg mb (Mine.fnScope 34) dp un 40)
 (hx : (x, instObj 359 d) ∈ news) (hd9 : (d, dictOf es n) ∈ news) (he : Mine.EntsAre w es [("rescale", rr), ("width", Value.int X ux), ("height", Value.int Y uy), ("transparent", vt), ("background", vb), ("greyscale", Value.bool true), ("alpha", Value.bool false), ("colormap", Value.bool false), ("bitdepth", Value.int tg ut), ("compression", .none), ("chunk_limit", (.int 1048576 712)), ("interlace", Value.bool (lc != 0)), ("palette", vp), ("x_pixels_per_unit", .none), ("y_pixels_per_unit", .none), ("unit_is_meter", Value.bool false), ("color_type", Value.int (if false then 3 else (if true then 0 else 2) + (if false then 4 else 0)) uc), ("color_planes", (Value.int cp u2)), ("planes", (Value.int pl u1))]) (v1 : m "writer" = some (.ref x)) (v2 : m "grey" = some (.bool true)) (v3 : m "alpha" = some (.bool false)) (v4 : m "palette" = some (.none)) (hret : ∀ h' tk', Fr h₀ L h' m → News h₀ L h' news → Q .next { s with heap := h', toks := tk' }) :
 wpAny (model rw_ar0036_02.row.prog w) ((Mine.Fa dp un (some []) l).deeper (envOfC nm (Mine.fnScope 34) L fa cd)) (exec (Mine.fnAt 34 31) (envOfC nm (Mine.fnScope 34) L fa cd)) Q (Mine.Out w ((Mine.Fa dp un (some []) l).deeper (envOfC nm (Mine.fnScope 34) L fa cd)) (envOfC nm (Mine.fnScope 34) L fa cd) R) s := by
 obtain ⟨F, X, N, T, Fs, sub, hk, hdp, hun⟩ := H
 (conv => arg 3; arg 1; whnf)
 walk_at "mine lit"
 w_on
 w_strict (
  revert X
  k_fill
  intro X
  
  k_steps)
 all_goals first | exact (Str.ofString "") | exact (0 : Nat) | exact Value.none | skip
 all_goals ((try dsimp only); first | exact hret _ _ (by assumption) (by assumption) | (exfalso; simp_all; done) | (exfalso; omega) | (fail "left"))
theorem Mine.law_s30f
 {x d : Addr} {es : List DictEntry} {n : Nat} {X Y lc tg pl cp : Int} {rr vt vb vp : Value} {ux uy ut uc u1 u2 : Tok} {al : Bool} {t2 t3 : Tok}  (H : Mine.Here w h₀ L s.heap m news frs l p loose mean mg mb (Mine.fnScope 34) dp un 40)
 (hx : (x, instObj 359 d) ∈ news) (hd9 : (d, dictOf es n) ∈ news) (he : Mine.EntsAre w es [("rescale", rr), ("width", Value.int X ux), ("height", Value.int Y uy), ("transparent", vt), ("background", vb), ("greyscale", Value.bool false), ("alpha", Value.bool al), ("colormap", Value.bool false), ("bitdepth", Value.int tg ut), ("compression", .none), ("chunk_limit", (.int 1048576 712)), ("interlace", Value.bool (lc != 0)), ("palette", vp), ("x_pixels_per_unit", .none), ("y_pixels_per_unit", .none), ("unit_is_meter", Value.bool false), ("color_type", Value.int (if false then 3 else (if false then 0 else 2) + (if al then 4 else 0)) uc), ("color_planes", (Value.int 3 u2)), ("planes", (Value.int pl u1))]) (v1 : m "writer" = some (.ref x)) (v2 : m "grey" = some (.bool false)) (v3 : m "planes" = some (.int pl t2)) (v4 : m "palette" = some (.none)) (v5 : m "lace" = some (.int lc t3)) (hret : ∀ h' tk', Fr h₀ L h' m → News h₀ L h' news → Q .next { s with heap := h', toks := tk' }) :
 wpAny (model rw_ar0036_02.row.prog w) ((Mine.Fa dp un (some []) l).deeper (envOfC nm (Mine.fnScope 34) L fa cd)) (exec (Mine.fnAt 34 30) (envOfC nm (Mine.fnScope 34) L fa cd)) Q (Mine.Out w ((Mine.Fa dp un (some []) l).deeper (envOfC nm (Mine.fnScope 34) L fa cd)) (envOfC nm (Mine.fnScope 34) L fa cd) R) s := by
 obtain ⟨F, X, N, T, Fs, sub, hk, hdp, hun⟩ := H
 (conv => arg 3; arg 1; whnf)
 walk_at "mine lit"
 w_on
 w_strict (
  revert X
  k_fill
  intro X
  
  k_steps)
 all_goals first | exact (Str.ofString "") | exact (0 : Nat) | exact Value.none | skip
 all_goals ((try dsimp only); first | exact hret _ _ (by assumption) (by assumption) | (exfalso; simp_all; done) | (exfalso; omega) | (fail "left"))
theorem Mine.law_s31ft
 {x d : Addr} {es : List DictEntry} {n : Nat} {X Y lc tg pl cp : Int} {rr vt vb vp : Value} {ux uy ut uc u1 u2 : Tok}  (H : Mine.Here w h₀ L s.heap m news frs l p loose mean mg mb (Mine.fnScope 34) dp un 40)
 (hx : (x, instObj 359 d) ∈ news) (hd9 : (d, dictOf es n) ∈ news) (he : Mine.EntsAre w es [("rescale", rr), ("width", Value.int X ux), ("height", Value.int Y uy), ("transparent", vt), ("background", vb), ("greyscale", Value.bool false), ("alpha", Value.bool true), ("colormap", Value.bool false), ("bitdepth", Value.int tg ut), ("compression", .none), ("chunk_limit", (.int 1048576 712)), ("interlace", Value.bool (lc != 0)), ("palette", vp), ("x_pixels_per_unit", .none), ("y_pixels_per_unit", .none), ("unit_is_meter", Value.bool false), ("color_type", Value.int (if false then 3 else (if false then 0 else 2) + (if true then 4 else 0)) uc), ("color_planes", (Value.int cp u2)), ("planes", (Value.int pl u1))]) (v1 : m "writer" = some (.ref x)) (v2 : m "grey" = some (.bool false)) (v3 : m "alpha" = some (.bool true)) (v4 : m "palette" = some (.none)) (hret : ∀ h' tk', Fr h₀ L h' m → News h₀ L h' news → Q .next { s with heap := h', toks := tk' }) :
 wpAny (model rw_ar0036_02.row.prog w) ((Mine.Fa dp un (some []) l).deeper (envOfC nm (Mine.fnScope 34) L fa cd)) (exec (Mine.fnAt 34 31) (envOfC nm (Mine.fnScope 34) L fa cd)) Q (Mine.Out w ((Mine.Fa dp un (some []) l).deeper (envOfC nm (Mine.fnScope 34) L fa cd)) (envOfC nm (Mine.fnScope 34) L fa cd) R) s := by
 obtain ⟨F, X, N, T, Fs, sub, hk, hdp, hun⟩ := H
 (conv => arg 3; arg 1; whnf)
 walk_at "mine lit"
 w_on
 w_strict (
  revert X
  k_fill
  intro X
  
  k_steps)
 all_goals first | exact (Str.ofString "") | exact (0 : Nat) | exact Value.none | skip
 all_goals ((try dsimp only); first | exact hret _ _ (by assumption) (by assumption) | (exfalso; simp_all; done) | (exfalso; omega) | (fail "left"))
theorem Mine.law_s31ff
 {x d : Addr} {es : List DictEntry} {n : Nat} {X Y lc tg pl cp : Int} {rr vt vb vp : Value} {ux uy ut uc u1 u2 : Tok}  (H : Mine.Here w h₀ L s.heap m news frs l p loose mean mg mb (Mine.fnScope 34) dp un 40)
 (hx : (x, instObj 359 d) ∈ news) (hd9 : (d, dictOf es n) ∈ news) (he : Mine.EntsAre w es [("rescale", rr), ("width", Value.int X ux), ("height", Value.int Y uy), ("transparent", vt), ("background", vb), ("greyscale", Value.bool false), ("alpha", Value.bool false), ("colormap", Value.bool false), ("bitdepth", Value.int tg ut), ("compression", .none), ("chunk_limit", (.int 1048576 712)), ("interlace", Value.bool (lc != 0)), ("palette", vp), ("x_pixels_per_unit", .none), ("y_pixels_per_unit", .none), ("unit_is_meter", Value.bool false), ("color_type", Value.int (if false then 3 else (if false then 0 else 2) + (if false then 4 else 0)) uc), ("color_planes", (Value.int cp u2)), ("planes", (Value.int pl u1))]) (v1 : m "writer" = some (.ref x)) (v2 : m "grey" = some (.bool false)) (v3 : m "alpha" = some (.bool false)) (v4 : m "palette" = some (.none)) (hret : ∀ h' tk', Fr h₀ L h' m → News h₀ L h' news → Q .next { s with heap := h', toks := tk' }) :
 wpAny (model rw_ar0036_02.row.prog w) ((Mine.Fa dp un (some []) l).deeper (envOfC nm (Mine.fnScope 34) L fa cd)) (exec (Mine.fnAt 34 31) (envOfC nm (Mine.fnScope 34) L fa cd)) Q (Mine.Out w ((Mine.Fa dp un (some []) l).deeper (envOfC nm (Mine.fnScope 34) L fa cd)) (envOfC nm (Mine.fnScope 34) L fa cd) R) s := by
 obtain ⟨F, X, N, T, Fs, sub, hk, hdp, hun⟩ := H
 (conv => arg 3; arg 1; whnf)
 walk_at "mine lit"
 w_on
 w_strict (
  revert X
  k_fill
  intro X
  
  k_steps)
 all_goals first | exact (Str.ofString "") | exact (0 : Nat) | exact Value.none | skip
 all_goals ((try dsimp only); first | exact hret _ _ (by assumption) (by assumption) | (exfalso; simp_all; done) | (exfalso; omega) | (fail "left"))
theorem Mine.law_s30l
 {x d : Addr} {es : List DictEntry} {n : Nat} {X Y lc tg pl cp : Int} {rr vt vb vp : Value} {ux uy ut uc u1 u2 : Tok} {al : Bool} {t2 t3 : Tok} {lp : Addr}  (H : Mine.Here w h₀ L s.heap m news frs l p loose mean mg mb (Mine.fnScope 34) dp un 40)
 (hx : (x, instObj 359 d) ∈ news) (hd9 : (d, dictOf es n) ∈ news) (he : Mine.EntsAre w es [("rescale", rr), ("width", Value.int X ux), ("height", Value.int Y uy), ("transparent", vt), ("background", vb), ("greyscale", Value.bool false), ("alpha", Value.bool al), ("colormap", Value.bool true), ("bitdepth", Value.int tg ut), ("compression", .none), ("chunk_limit", (.int 1048576 712)), ("interlace", Value.bool (lc != 0)), ("palette", vp), ("x_pixels_per_unit", .none), ("y_pixels_per_unit", .none), ("unit_is_meter", Value.bool false), ("color_type", Value.int (if true then 3 else (if false then 0 else 2) + (if al then 4 else 0)) uc), ("color_planes", (Value.int 1 u2)), ("planes", (Value.int pl u1))]) (v1 : m "writer" = some (.ref x)) (v2 : m "grey" = some (.bool false)) (v3 : m "planes" = some (.int pl t2)) (v4 : m "palette" = some (.ref lp)) (v5 : m "lace" = some (.int lc t3)) (hret : ∀ h' tk', Fr h₀ L h' m → News h₀ L h' news → Q .next { s with heap := h', toks := tk' }) :
 wpAny (model rw_ar0036_02.row.prog w) ((Mine.Fa dp un (some []) l).deeper (envOfC nm (Mine.fnScope 34) L fa cd)) (exec (Mine.fnAt 34 30) (envOfC nm (Mine.fnScope 34) L fa cd)) Q (Mine.Out w ((Mine.Fa dp un (some []) l).deeper (envOfC nm (Mine.fnScope 34) L fa cd)) (envOfC nm (Mine.fnScope 34) L fa cd) R) s := by
 obtain ⟨F, X, N, T, Fs, sub, hk, hdp, hun⟩ := H
 (conv => arg 3; arg 1; whnf)
 walk_at "mine lit"
 w_on
 w_strict (
  revert X
  k_fill
  intro X
  
  k_steps)
 all_goals first | exact (Str.ofString "") | exact (0 : Nat) | exact Value.none | skip
 all_goals ((try dsimp only); first | exact hret _ _ (by assumption) (by assumption) | (exfalso; simp_all; done) | (exfalso; omega) | (fail "left"))
theorem Mine.law_s31lf
 {x d : Addr} {es : List DictEntry} {n : Nat} {X Y lc tg pl cp : Int} {rr vt vb vp : Value} {ux uy ut uc u1 u2 : Tok} {lp : Addr}  (H : Mine.Here w h₀ L s.heap m news frs l p loose mean mg mb (Mine.fnScope 34) dp un 40)
 (hx : (x, instObj 359 d) ∈ news) (hd9 : (d, dictOf es n) ∈ news) (he : Mine.EntsAre w es [("rescale", rr), ("width", Value.int X ux), ("height", Value.int Y uy), ("transparent", vt), ("background", vb), ("greyscale", Value.bool false), ("alpha", Value.bool false), ("colormap", Value.bool true), ("bitdepth", Value.int tg ut), ("compression", .none), ("chunk_limit", (.int 1048576 712)), ("interlace", Value.bool (lc != 0)), ("palette", vp), ("x_pixels_per_unit", .none), ("y_pixels_per_unit", .none), ("unit_is_meter", Value.bool false), ("color_type", Value.int (if true then 3 else (if false then 0 else 2) + (if false then 4 else 0)) uc), ("color_planes", (Value.int cp u2)), ("planes", (Value.int pl u1))]) (v1 : m "writer" = some (.ref x)) (v2 : m "grey" = some (.bool false)) (v3 : m "alpha" = some (.bool false)) (v4 : m "palette" = some (.ref lp)) (hret : ∀ h' tk', Fr h₀ L h' m → News h₀ L h' news → Q .next { s with heap := h', toks := tk' }) :
 wpAny (model rw_ar0036_02.row.prog w) ((Mine.Fa dp un (some []) l).deeper (envOfC nm (Mine.fnScope 34) L fa cd)) (exec (Mine.fnAt 34 31) (envOfC nm (Mine.fnScope 34) L fa cd)) Q (Mine.Out w ((Mine.Fa dp un (some []) l).deeper (envOfC nm (Mine.fnScope 34) L fa cd)) (envOfC nm (Mine.fnScope 34) L fa cd) R) s := by
 obtain ⟨F, X, N, T, Fs, sub, hk, hdp, hun⟩ := H
 (conv => arg 3; arg 1; whnf)
 walk_at "mine lit"
 w_on
 w_strict (
  revert X
  k_fill
  intro X
  
  k_steps)
 all_goals first | exact (Str.ofString "") | exact (0 : Nat) | exact Value.none | skip
 all_goals ((try dsimp only); first | exact hret _ _ (by assumption) (by assumption) | (exfalso; simp_all; done) | (exfalso; omega) | (fail "left"))
end
section
local macro_rules | `(tactic| walk_at $s:str) => Mine.hand "i74 " s
theorem Mine.k31 : True := by
 k_with "i74 binaryOp Pow int int" => ((k_here; (with_reducible show wpAny _ _ (binaryOp _ _ (Value.int 32 _)) _ _ _); k_dflt (refine' Mine.pow32 ?hB ?_; (case hB => assumption))))
 k_with "i74 binaryOp Pow int int" => ((k_here; (with_reducible show wpAny _ _ (binaryOp _ _ (Value.int 31 _)) _ _ _); k_dflt (refine' Mine.pow31 ?hB ?_; (case hB => assumption))))
 k_with "i74 eval ListComp" => ((k_here; lct_look; k_dflt (refine LCt.ListComp_T (F₀ := by k_asm) (by with_unfolding_all rfl) (by decide) (by rfl) (by decide) (by rfl) ?_)))
 k_with "i74 call builtin:min" => ((k_here; (with_reducible show wpAny _ _ (call (Value.builtin _) [Value.ref _]) _ _ _); k_dflt (refine' Mine.min_lst ?h ?F ?N ?m ?i ?n ?_; (case F => k_asm); (case N => k_asm); (case h => rfl); (case m => walk_at "mine mem"); (case i => assumption); (case n => first | assumption | exact Mine.f5_pos hq2)); intro h' M' t' tk' F' N' a' b'; have emin' := Mine.ex_min a' b'))
 k_with "i74 call builtin:max" => ((k_here; (with_reducible show wpAny _ _ (call (Value.builtin _) [Value.ref _]) _ _ _); k_dflt (refine' Mine.max_lst ?h ?F ?N ?m ?i ?n ?_; (case F => k_asm); (case N => k_asm); (case h => rfl); (case m => walk_at "mine mem"); (case i => assumption); (case n => first | assumption | exact Mine.f5_pos hq2)); intro h' M' t' tk' F' N' a' b'; have emax' := Mine.ex_max a' b'))
 k_with "i74 subscriptTail" => ((k_here; (with_reducible show wpAny _ _ (subscriptTail _ _ (Value.ref _) (Value.int _ _)) _ _ _); k_dflt (refine' Mine.item_lst ?N ?m ?y0 ?y1 ?x ?_ ?hs; (case N => k_asm); (case m => walk_at "mine mem"); (case y0 => decide); (case y1 => decide); (case x => rfl); (case hs => with_unfolding_all rfl); k_whole)))
 k_with "i74 compareOp Eq" => ((k_here; (with_reducible show wpAny _ _ (compareOp CmpOp.Eq vt _) _ _ _); k_dflt (refine' Mine.eq_dat (d := Mine.colDat (Mine.colOut kc)) ?zg1a ?zg2a ?zg3a (Mine.col_ok _) ?zg5a ?_; (case zg1a => k_asm); (case zg2a => exact (hct.mono (fun p hp => by walk_at "mine mem")).dat); (case zg3a => first | exact Mine.dat_num (hkc.mono (fun p hp => by walk_at "mine mem")) (hks.mpr ⟨by first | assumption | omega, by assumption⟩) (by walk_at "mine mem") | exact Mine.dat_key (hkc.mono (fun p hp => by walk_at "mine mem")) (fun h9 => absurd (hks.mp h9) (by intro e9; first | exact absurd e9.1 (by assumption) | (obtain ⟨e8, e9⟩ := e9; omega) | (obtain ⟨e8, e9⟩ := e9; simp_all; done)))); (case zg5a => ke_room))))
 k_with "i74 compareOp Eq" => ((k_here; (with_reducible show wpAny _ _ (compareOp CmpOp.Eq vb _) _ _ _); k_dflt (refine' Mine.eq_dat (d := Mine.colDat (Mine.colOut bc)) ?zg1b ?zg2b ?zg3b (Mine.col_ok _) ?zg5b ?_; (case zg1b => k_asm); (case zg2b => exact (hcb.mono (fun p hp => by walk_at "mine mem")).dat); (case zg3b => first | exact Mine.dat_num (hbc.mono (fun p hp => by walk_at "mine mem")) (hbs.mpr ⟨by first | assumption | omega, by assumption⟩) (by walk_at "mine mem") | exact Mine.dat_key (hbc.mono (fun p hp => by walk_at "mine mem")) (fun h9 => absurd (hbs.mp h9) (by intro e9; first | exact absurd e9.1 (by assumption) | (obtain ⟨e8, e9⟩ := e9; omega) | (obtain ⟨e8, e9⟩ := e9; simp_all; done)))); (case zg5b => ke_room))))
 k_with "i74 compareOp Eq ref" => ((k_here; (with_reducible show wpAny _ _ (compareOp CmpOp.Eq vt _) _ _ _); k_dflt (refine' Mine.eq_dat (d := Mine.colDat (Mine.colOut kc)) ?zg1a ?zg2a ?zg3a (Mine.col_ok _) ?zg5a ?_; (case zg1a => k_asm); (case zg2a => exact (hct.mono (fun p hp => by walk_at "mine mem")).dat); (case zg3a => first | exact Mine.dat_num (hkc.mono (fun p hp => by walk_at "mine mem")) (hks.mpr ⟨by first | assumption | omega, by assumption⟩) (by walk_at "mine mem") | exact Mine.dat_key (hkc.mono (fun p hp => by walk_at "mine mem")) (fun h9 => absurd (hks.mp h9) (by intro e9; first | exact absurd e9.1 (by assumption) | (obtain ⟨e8, e9⟩ := e9; omega) | (obtain ⟨e8, e9⟩ := e9; simp_all; done)))); (case zg5a => ke_room))))
 k_with "i74 compareOp Eq ref" => ((k_here; (with_reducible show wpAny _ _ (compareOp CmpOp.Eq vb _) _ _ _); k_dflt (refine' Mine.eq_dat (d := Mine.colDat (Mine.colOut bc)) ?zg1b ?zg2b ?zg3b (Mine.col_ok _) ?zg5b ?_; (case zg1b => k_asm); (case zg2b => exact (hcb.mono (fun p hp => by walk_at "mine mem")).dat); (case zg3b => first | exact Mine.dat_num (hbc.mono (fun p hp => by walk_at "mine mem")) (hbs.mpr ⟨by first | assumption | omega, by assumption⟩) (by walk_at "mine mem") | exact Mine.dat_key (hbc.mono (fun p hp => by walk_at "mine mem")) (fun h9 => absurd (hbs.mp h9) (by intro e9; first | exact absurd e9.1 (by assumption) | (obtain ⟨e8, e9⟩ := e9; omega) | (obtain ⟨e8, e9⟩ := e9; simp_all; done)))); (case zg5b => ke_room))))
 trivial
local macro_rules | `(tactic| k_mem) => `(tactic| walk_at "mine mem")
local macro_rules | `(tactic| k_handed) => `(tactic| assumption)
theorem Mine.law_s32 {w : World} {p : Program} {loose : List Str} {mean : ExcName → Option Value} {mg mb : Str → Option Value}
 {dp un : Nat} {nm : Str} {fa : Addr} {cd : Value} {l : List Env} {h₀ : Heap} {L : Addr} {m : Str → Option Value} {news frs : Mine.Led} {s : Shared} {Q : Flow → Shared → Prop} {R : Result → Shared → Prop}
 {x d : Addr} {es : List DictEntry} {n : Nat} {X Y lc tg pl cp : Int} {rr vt vb vp : Value} {ux uy ut uc u1 u2 : Tok} {g g0 al cm : Bool} {kc bc : Mine.Col} {cl gr : Int} {t2 t3 : Tok} {vk vk2 : Value}  (H : Mine.Here w h₀ L s.heap m news frs l p loose mean mg mb (Mine.fnScope 34) dp un 40)
 (hx : (x, instObj 359 d) ∈ news) (hd9 : (d, dictOf es n) ∈ news) (he : Mine.EntsAre w es [("rescale", rr), ("width", Value.int X ux), ("height", Value.int Y uy), ("transparent", vt), ("background", vb), ("greyscale", Value.bool g), ("alpha", Value.bool al), ("colormap", Value.bool cm), ("bitdepth", Value.int tg ut), ("compression", .none), ("chunk_limit", (.int 1048576 712)), ("interlace", Value.bool (lc != 0)), ("palette", vp), ("x_pixels_per_unit", .none), ("y_pixels_per_unit", .none), ("unit_is_meter", Value.bool false), ("color_type", Value.int (if cm then 3 else (if g then 0 else 2) + (if al then 4 else 0)) uc), ("color_planes", (Value.int cp u2)), ("planes", (Value.int pl u1))]) (v1 : m "writer" = some (.ref x)) (v2 : m "clear" = some (.int cl t2)) (v3 : m "ground" = some (.int gr t3)) (v4 : m "grey" = some (.bool g0)) (v5 : m "key" = some vk) (v6 : m "back" = some vk2) (hkc : Mine.ColIs news vk kc) (hbc : Mine.ColIs news vk2 bc) (hct : Mine.ColIs news vt (Mine.colOut kc)) (hcb : Mine.ColIs news vb (Mine.colOut bc)) (hks : (∃ n, kc = .num n) ↔ cl = 5 ∧ g0 = true) (hbs : (∃ n, bc = .num n) ↔ gr = 5 ∧ g0 = true) (hh1 : handedIn vt = true) (hh2 : handedIn vb = true) (hret : ∀ h' tk', Fr h₀ L h' m → Q (.ret (.bool true)) { s with heap := h', toks := tk' }) :
 wpAny (model rw_ar0036_02.row.prog w) ((Mine.Fa dp un (some []) l).deeper (envOfC nm (Mine.fnScope 34) L fa cd)) (exec (Mine.fnAt 34 32) (envOfC nm (Mine.fnScope 34) L fa cd)) Q (Mine.Out w ((Mine.Fa dp un (some []) l).deeper (envOfC nm (Mine.fnScope 34) L fa cd)) (envOfC nm (Mine.fnScope 34) L fa cd) R) s := by
 obtain ⟨F, X, N, T, Fs, sub, hk, hdp, hun⟩ := H
 (conv => arg 3; arg 1; whnf)
 walk_at "mine lit"
 w_on
 w_strict (
  revert X
  k_fill
  intro X
  
  k_steps)
 all_goals first | exact (Str.ofString "") | exact (0 : Nat) | exact Value.none | skip
 all_goals ((try dsimp only); first | exact hret _ _ (by assumption) | (exfalso; simp_all; done) | (fail "left"))
end
section
namespace Mine
theorem CbrPost.mono {nw nw' : Led} (h : ∀ p ∈ nw, p ∈ nw') {qs : List Int} {tg : Int} {rr : Value} (x : CbrPost qs tg rr nw) : CbrPost qs tg rr nw' := x.off fun a o ha _ => h _ ha
theorem Made.mono {w : World} {nw nw' : Led} (h : ∀ p ∈ nw, p ∈ nw') {x : Addr} {X Y lc : Int} {g al cm : Bool} {qs : List Int} {tg pl cp : Int} {tc bc : Col} {vp : Value} : Made w nw x X Y lc g al cm qs tg pl cp tc bc vp → Made w nw' x X Y lc g al cm qs tg pl cp tc bc vp
  | ⟨rr, vt, vb, ux, uy, ut, uc, u1, u2, a, b, c, d, es, n, e, f, g⟩ => ⟨rr, vt, vb, ux, uy, ut, uc, u1, u2, a.mono h, b.mono h, c.mono h, d, es, n, h _ e, h _ f, g⟩
section
variable {w : World} {p : Program} {loose : List Str} {mean : ExcName → Option Value} {mg mb : Str → Option Value} {dp un : Nat} {nm : Str} {fa : Addr} {cd : Value} {h₀ : Heap} {L : Addr} {m : Str → Option Value} {news : Led} {s : Shared} {Q : Flow → Shared → Prop} {R : Result → Shared → Prop} {rest : List Stmt}
theorem law_fin_n {x : Addr} {X Y lc tg pl : Int} {g al : Bool} {qs : List Int} {kc bc : Col} {cl gr : Int} {t2 t3 t4 t5 t6 t7 tf : Tok} {vk vk2 : Value} {oc3 : Obj} {vpr : Value} (H : Here w h₀ L s.heap m news [] [] p loose mean mg mb (fnScope 34) dp un 40) (Md : Made w news x X Y lc g al false qs tg pl (if g then 1 else 3) kc bc .none) (v1 : m "writer" = some (.ref x)) (v2 : m "wide" = some (.int X t2)) (v3 : m "high" = some (.int Y t3)) (hc3 : (L + 1 + 1 + 1, oc3) ∈ news) (hoc3 : oc3.data = .cell (some (.int tg tf))) (w3 : m "alpha" = some (.bool al)) (w5 : m "planes" = some (.int pl t4)) (w6 : m "lace" = some (.int lc t5)) (w7 : m "clear" = some (.int cl t6)) (w8 : m "ground" = some (.int gr t7)) (w9 : m "key" = some vk) (wa : m "back" = some vk2) (hkc : ColIs news vk kc) (hbc : ColIs news vk2 bc) (w2 : m "grey" = some (.bool g)) (w4 : m "palette" = some .none) (hks : (∃ n, kc = .num n) ↔ cl = 5 ∧ g = true) (hbs : (∃ n, bc = .num n) ↔ gr = 5 ∧ g = true) (v4 : m "pairs" = some vpr) (hpr : (∀ q ∈ qs, q = tg) ∧ vpr = .none ∨ (∃ q ∈ qs, q ≠ tg) ∧ ∃ P, vpr = .ref P ∧ PalList news P (qs.map fun q => [q, tg])) (ret : ∀ m' h' tk', Fr h₀ L h' m' → Q (.ret (.bool true)) { s with heap := h', toks := tk' }) :
    wpAny (model rw_ar0036_02.row.prog w) ((Fa dp un (some []) []).deeper (envOfC nm (fnScope 34) L fa cd)) (execs [fnAt 34 28, fnAt 34 29, fnAt 34 30, fnAt 34 31, fnAt 34 32] (envOfC nm (fnScope 34) L fa cd)) Q (Out w ((Fa dp un (some []) []).deeper (envOfC nm (fnScope 34) L fa cd)) (envOfC nm (fnScope 34) L fa cd) R) s := by
  obtain ⟨rr, vt, vb, ux, uy, ut, uc, u1, u2, post, c1, c2, d, es, n, hx, hd9, he⟩ := Md
  have hdr : ∃ dr, DatIn news rr dr ∧ DatIn news vpr dr ∧ kqdOk 8 dr = true ∧ handedIn rr = true := by
    rcases hpr with ⟨ha, rfl⟩ | ⟨ha, P, rfl, hP⟩
    · obtain rfl := post_no post ha
      exact ⟨.none, .none, .none, rfl, by simp [handedIn]⟩
    · obtain ⟨rl, rfl, dl⟩ := post_some post ha
      exact ⟨_, dl, pairs_dat hP, pairs_ok qs tg, by simp [handedIn]⟩
  obtain ⟨dr, hr1, hr2, hr3, hh⟩ := hdr
  refine wpAny_execs_cons (law_s28 H hx hd9 he v1 v2 v3 hc3 hoc3 v4 hr1 hr2 hr3 hh fun h1 tk1 F1 N1 => ?_)
  have H1 := H.now F1 N1
  refine wpAny_execs_cons (law_s29n (s := { s with heap := h1, toks := tk1 }) H1 hx hd9 he v1 w2 w3 w4 (dr := .none) .none .none rfl (by simp [handedIn]) fun h2 tk2 F2 N2 => ?_)
  have H2 := H1.now F2 N2
  cases g
  · refine wpAny_execs_cons (law_s30f (cp := 0) (s := { s with heap := h2, toks := tk2 }) H2 hx hd9 he v1 w2 w5 w4 w6 fun h3 tk3 F3 N3 => ?_)
    have H3 := H2.now F3 N3
    have more : ∀ h4 tk4, Fr h₀ L h4 m → News h₀ L h4 news → wpAny (model rw_ar0036_02.row.prog w) ((Fa dp un (some []) []).deeper (envOfC nm (fnScope 34) L fa cd)) (execs [fnAt 34 32] (envOfC nm (fnScope 34) L fa cd)) Q (Out w ((Fa dp un (some []) []).deeper (envOfC nm (fnScope 34) L fa cd)) (envOfC nm (fnScope 34) L fa cd) R) { s with heap := h4, toks := tk4 } := fun h4 tk4 F4 N4 => by
      have H4 := H3.now F4 N4
      refine wpAny_execs_cons (law_s32 (s := { s with heap := h4, toks := tk4 }) H4 hx hd9 he v1 w7 w8 w2 w9 wa hkc hbc c1 c2 hks hbs c1.handed c2.handed fun h5 tk5 F5 => ?_)
      exact ret _ h5 tk5 F5
    cases al
    · exact wpAny_execs_cons (law_s31ff (s := { s with heap := h3, toks := tk3 }) H3 hx hd9 he v1 w2 w3 w4 fun h4 tk4 F4 N4 => more h4 tk4 F4 N4)
    · exact wpAny_execs_cons (law_s31ft (s := { s with heap := h3, toks := tk3 }) H3 hx hd9 he v1 w2 w3 w4 fun h4 tk4 F4 N4 => more h4 tk4 F4 N4)
  · refine wpAny_execs_cons (law_s30t (cp := 0) (s := { s with heap := h2, toks := tk2 }) H2 hx hd9 he v1 w2 w5 w4 w6 fun h3 tk3 F3 N3 => ?_)
    have H3 := H2.now F3 N3
    have more : ∀ h4 tk4, Fr h₀ L h4 m → News h₀ L h4 news → wpAny (model rw_ar0036_02.row.prog w) ((Fa dp un (some []) []).deeper (envOfC nm (fnScope 34) L fa cd)) (execs [fnAt 34 32] (envOfC nm (fnScope 34) L fa cd)) Q (Out w ((Fa dp un (some []) []).deeper (envOfC nm (fnScope 34) L fa cd)) (envOfC nm (fnScope 34) L fa cd) R) { s with heap := h4, toks := tk4 } := fun h4 tk4 F4 N4 => by
      have H4 := H3.now F4 N4
      refine wpAny_execs_cons (law_s32 (s := { s with heap := h4, toks := tk4 }) H4 hx hd9 he v1 w7 w8 w2 w9 wa hkc hbc c1 c2 hks hbs c1.handed c2.handed fun h5 tk5 F5 => ?_)
      exact ret _ h5 tk5 F5
    cases al
    · exact wpAny_execs_cons (law_s31tf (s := { s with heap := h3, toks := tk3 }) H3 hx hd9 he v1 w2 w3 w4 fun h4 tk4 F4 N4 => more h4 tk4 F4 N4)
    · exact wpAny_execs_cons (law_s31tt (s := { s with heap := h3, toks := tk3 }) H3 hx hd9 he v1 w2 w3 w4 fun h4 tk4 F4 N4 => more h4 tk4 F4 N4)
theorem law_fin_l {x : Addr} {X Y lc tg pl : Int} {qs : List Int} {kc bc : Col} {cl gr : Int} {t2 t3 t4 t5 t6 t7 tf : Tok} {vk vk2 : Value} {oc3 : Obj} {vpr : Value} {l2 lp : Addr} {ps : List Value} {k2 np : Nat} {es0 : List (List Int)} (H : Here w h₀ L s.heap m news [] [] p loose mean mg mb (fnScope 34) dp un 40) (Md : Made w news x X Y lc false false true qs tg pl 1 kc bc (.ref l2)) (hl2 : (l2, W.listOf ps.toArray k2) ∈ news) (hlp : (lp, W.listOf ps.toArray np) ∈ news) (hpa : PalAre news ps es0) (v1 : m "writer" = some (.ref x)) (v2 : m "wide" = some (.int X t2)) (v3 : m "high" = some (.int Y t3)) (hc3 : (L + 1 + 1 + 1, oc3) ∈ news) (hoc3 : oc3.data = .cell (some (.int tg tf))) (w3 : m "alpha" = some (.bool false)) (w5 : m "planes" = some (.int pl t4)) (w6 : m "lace" = some (.int lc t5)) (w7 : m "clear" = some (.int cl t6)) (w8 : m "ground" = some (.int gr t7)) (w9 : m "key" = some vk) (wa : m "back" = some vk2) (hkc : ColIs news vk kc) (hbc : ColIs news vk2 bc) (w2 : m "grey" = some (.bool false)) (w4 : m "palette" = some (.ref lp)) (hks : (∃ n, kc = .num n) ↔ cl = 5 ∧ false = true) (hbs : (∃ n, bc = .num n) ↔ gr = 5 ∧ false = true) (v4 : m "pairs" = some vpr) (hpr : (∀ q ∈ qs, q = tg) ∧ vpr = .none ∨ (∃ q ∈ qs, q ≠ tg) ∧ ∃ P, vpr = .ref P ∧ PalList news P (qs.map fun q => [q, tg])) (ret : ∀ m' h' tk', Fr h₀ L h' m' → Q (.ret (.bool true)) { s with heap := h', toks := tk' }) :
    wpAny (model rw_ar0036_02.row.prog w) ((Fa dp un (some []) []).deeper (envOfC nm (fnScope 34) L fa cd)) (execs [fnAt 34 28, fnAt 34 29, fnAt 34 30, fnAt 34 31, fnAt 34 32] (envOfC nm (fnScope 34) L fa cd)) Q (Out w ((Fa dp un (some []) []).deeper (envOfC nm (fnScope 34) L fa cd)) (envOfC nm (fnScope 34) L fa cd) R) s := by
  obtain ⟨rr, vt, vb, ux, uy, ut, uc, u1, u2, post, c1, c2, d, es, n, hx, hd9, he⟩ := Md
  have hdr : ∃ dr, DatIn news rr dr ∧ DatIn news vpr dr ∧ kqdOk 8 dr = true ∧ handedIn rr = true := by
    rcases hpr with ⟨ha, rfl⟩ | ⟨ha, P, rfl, hP⟩
    · obtain rfl := post_no post ha
      exact ⟨.none, .none, .none, rfl, by simp [handedIn]⟩
    · obtain ⟨rl, rfl, dl⟩ := post_some post ha
      exact ⟨_, dl, pairs_dat hP, pairs_ok qs tg, by simp [handedIn]⟩
  obtain ⟨dr, hr1, hr2, hr3, hh⟩ := hdr
  refine wpAny_execs_cons (law_s28 H hx hd9 he v1 v2 v3 hc3 hoc3 v4 hr1 hr2 hr3 hh fun h1 tk1 F1 N1 => ?_)
  have H1 := H.now F1 N1
  refine wpAny_execs_cons (law_s29l (s := { s with heap := h1, toks := tk1 }) H1 hx hd9 he v1 w2 w3 w4 (palette_dat hl2 hpa) (palette_dat hlp hpa) (palette_ok es0) (by simp [handedIn]) fun h2 tk2 F2 N2 => ?_)
  have H2 := H1.now F2 N2
  refine wpAny_execs_cons (law_s30l (cp := 0) (s := { s with heap := h2, toks := tk2 }) H2 hx hd9 he v1 w2 w5 w4 w6 fun h3 tk3 F3 N3 => ?_)
  have H3 := H2.now F3 N3
  refine wpAny_execs_cons (law_s31lf (s := { s with heap := h3, toks := tk3 }) H3 hx hd9 he v1 w2 w3 w4 fun h4 tk4 F4 N4 => ?_)
  have H4 := H3.now F4 N4
  refine wpAny_execs_cons (law_s32 (s := { s with heap := h4, toks := tk4 }) H4 hx hd9 he v1 w7 w8 w2 w9 wa hkc hbc c1 c2 hks hbs c1.handed c2.handed fun h5 tk5 F5 => ?_)
  exact ret _ h5 tk5 F5
theorem law_tail_n {x : Addr} {X Y lc tg pl : Int} {g al : Bool} {qs : List Int} {kc bc : Col} {cl gr : Int} {t2 t3 t4 t5 t6 t7 tf : Tok} {vk vk2 : Value} {oc3 : Obj} {oc2 : Obj} {D : Addr} {its : List Value} {k : Nat} (H : Here w h₀ L s.heap m news [] [] p loose mean mg mb (fnScope 34) dp un 40) (Md : Made w news x X Y lc g al false qs tg pl (if g then 1 else 3) kc bc .none) (v1 : m "writer" = some (.ref x)) (v2 : m "wide" = some (.int X t2)) (v3 : m "high" = some (.int Y t3)) (hc3 : (L + 1 + 1 + 1, oc3) ∈ news) (hoc3 : oc3.data = .cell (some (.int tg tf))) (w3 : m "alpha" = some (.bool al)) (w5 : m "planes" = some (.int pl t4)) (w6 : m "lace" = some (.int lc t5)) (w7 : m "clear" = some (.int cl t6)) (w8 : m "ground" = some (.int gr t7)) (w9 : m "key" = some vk) (wa : m "back" = some vk2) (hkc : ColIs news vk kc) (hbc : ColIs news vk2 bc) (w2 : m "grey" = some (.bool g)) (w4 : m "palette" = some .none) (hks : (∃ n, kc = .num n) ↔ cl = 5 ∧ g = true) (hbs : (∃ n, bc = .num n) ↔ gr = 5 ∧ g = true) (hc2 : (L + 1 + 1, oc2) ∈ news) (hoc2 : oc2.data = .cell (some (.ref D))) (hD : (D, W.listOf its.toArray k) ∈ news) (hdi : IntsAre its qs) (hil : its.length ≤ 4) (ret : ∀ m' h' tk', Fr h₀ L h' m' → Q (.ret (.bool true)) { s with heap := h', toks := tk' }) :
    wpAny (model rw_ar0036_02.row.prog w) ((Fa dp un (some []) []).deeper (envOfC nm (fnScope 34) L fa cd)) (execs [fnAt 34 27, fnAt 34 28, fnAt 34 29, fnAt 34 30, fnAt 34 31, fnAt 34 32] (envOfC nm (fnScope 34) L fa cd)) Q (Out w ((Fa dp un (some []) []).deeper (envOfC nm (fnScope 34) L fa cd)) (envOfC nm (fnScope 34) L fa cd) R) s := by
  refine wpAny_execs_cons (law_s27 (tf := tf) H hc2 hoc2 hc3 hoc3 hD hdi hil (fun ha h1 tk1 nw sb F1 N1 => ?_) fun ha P h1 tk1 nw sb hP F1 N1 => ?_)
  · exact law_fin_n (vpr := .none) (s := { s with heap := h1, toks := tk1 }) (H.next F1 N1 (fun _ h => nomatch h)) (Md.mono sb) (by walk_at "mine see") (by walk_at "mine see") (by walk_at "mine see") (sb _ hc3) hoc3 (by walk_at "mine see") (by walk_at "mine see") (by walk_at "mine see") (by walk_at "mine see") (by walk_at "mine see") (by walk_at "mine see") (by walk_at "mine see") (hkc.mono sb) (hbc.mono sb) (by walk_at "mine see") (by walk_at "mine see") hks hbs (by walk_at "mine see") (.inl ⟨ha, rfl⟩) ret
  · exact law_fin_n (vpr := .ref P) (s := { s with heap := h1, toks := tk1 }) (H.next F1 N1 (fun _ h => nomatch h)) (Md.mono sb) (by walk_at "mine see") (by walk_at "mine see") (by walk_at "mine see") (sb _ hc3) hoc3 (by walk_at "mine see") (by walk_at "mine see") (by walk_at "mine see") (by walk_at "mine see") (by walk_at "mine see") (by walk_at "mine see") (by walk_at "mine see") (hkc.mono sb) (hbc.mono sb) (by walk_at "mine see") (by walk_at "mine see") hks hbs (by walk_at "mine see") (.inr ⟨ha, P, rfl, hP⟩) ret
theorem law_tail_l {x : Addr} {X Y lc tg pl : Int} {qs : List Int} {kc bc : Col} {cl gr : Int} {t2 t3 t4 t5 t6 t7 tf : Tok} {vk vk2 : Value} {oc3 : Obj} {l2 lp : Addr} {ps : List Value} {k2 np : Nat} {es0 : List (List Int)} {oc2 : Obj} {D : Addr} {its : List Value} {k : Nat} (H : Here w h₀ L s.heap m news [] [] p loose mean mg mb (fnScope 34) dp un 40) (Md : Made w news x X Y lc false false true qs tg pl 1 kc bc (.ref l2)) (hl2 : (l2, W.listOf ps.toArray k2) ∈ news) (hlp : (lp, W.listOf ps.toArray np) ∈ news) (hpa : PalAre news ps es0) (v1 : m "writer" = some (.ref x)) (v2 : m "wide" = some (.int X t2)) (v3 : m "high" = some (.int Y t3)) (hc3 : (L + 1 + 1 + 1, oc3) ∈ news) (hoc3 : oc3.data = .cell (some (.int tg tf))) (w3 : m "alpha" = some (.bool false)) (w5 : m "planes" = some (.int pl t4)) (w6 : m "lace" = some (.int lc t5)) (w7 : m "clear" = some (.int cl t6)) (w8 : m "ground" = some (.int gr t7)) (w9 : m "key" = some vk) (wa : m "back" = some vk2) (hkc : ColIs news vk kc) (hbc : ColIs news vk2 bc) (w2 : m "grey" = some (.bool false)) (w4 : m "palette" = some (.ref lp)) (hks : (∃ n, kc = .num n) ↔ cl = 5 ∧ false = true) (hbs : (∃ n, bc = .num n) ↔ gr = 5 ∧ false = true) (hc2 : (L + 1 + 1, oc2) ∈ news) (hoc2 : oc2.data = .cell (some (.ref D))) (hD : (D, W.listOf its.toArray k) ∈ news) (hdi : IntsAre its qs) (hil : its.length ≤ 4) (ret : ∀ m' h' tk', Fr h₀ L h' m' → Q (.ret (.bool true)) { s with heap := h', toks := tk' }) :
    wpAny (model rw_ar0036_02.row.prog w) ((Fa dp un (some []) []).deeper (envOfC nm (fnScope 34) L fa cd)) (execs [fnAt 34 27, fnAt 34 28, fnAt 34 29, fnAt 34 30, fnAt 34 31, fnAt 34 32] (envOfC nm (fnScope 34) L fa cd)) Q (Out w ((Fa dp un (some []) []).deeper (envOfC nm (fnScope 34) L fa cd)) (envOfC nm (fnScope 34) L fa cd) R) s := by
  refine wpAny_execs_cons (law_s27 (tf := tf) H hc2 hoc2 hc3 hoc3 hD hdi hil (fun ha h1 tk1 nw sb F1 N1 => ?_) fun ha P h1 tk1 nw sb hP F1 N1 => ?_)
  · exact law_fin_l (vpr := .none) (s := { s with heap := h1, toks := tk1 }) (H.next F1 N1 (fun _ h => nomatch h)) (Md.mono sb) (sb _ hl2) (sb _ hlp) (hpa.mono sb) (by walk_at "mine see") (by walk_at "mine see") (by walk_at "mine see") (sb _ hc3) hoc3 (by walk_at "mine see") (by walk_at "mine see") (by walk_at "mine see") (by walk_at "mine see") (by walk_at "mine see") (by walk_at "mine see") (by walk_at "mine see") (hkc.mono sb) (hbc.mono sb) (by walk_at "mine see") (by walk_at "mine see") hks hbs (by walk_at "mine see") (.inl ⟨ha, rfl⟩) ret
  · exact law_fin_l (vpr := .ref P) (s := { s with heap := h1, toks := tk1 }) (H.next F1 N1 (fun _ h => nomatch h)) (Md.mono sb) (sb _ hl2) (sb _ hlp) (hpa.mono sb) (by walk_at "mine see") (by walk_at "mine see") (by walk_at "mine see") (sb _ hc3) hoc3 (by walk_at "mine see") (by walk_at "mine see") (by walk_at "mine see") (by walk_at "mine see") (by walk_at "mine see") (by walk_at "mine see") (by walk_at "mine see") (hkc.mono sb) (hbc.mono sb) (by walk_at "mine see") (by walk_at "mine see") hks hbs (by walk_at "mine see") (.inr ⟨ha, P, rfl, hP⟩) ret
end
end Mine
end
section
variable {w : World} {p : Program} {loose : List Str} {mean : ExcName → Option Value} {mg mb : Str → Option Value}
variable {dp un : Nat} {nm : Str} {fa : Addr} {cd : Value} {l : List Env} {h₀ : Heap} {L : Addr} {m : Str → Option Value} {news frs : Mine.Led} {s : Shared} {Q : Flow → Shared → Prop} {R : Result → Shared → Prop}
local macro_rules | `(tactic| walk_at $s:str) => Mine.hand "i76 " s
local macro_rules | `(tactic| walk_at "p") => Mine.pad
theorem Mine.k32 : True := by
 k_with "i76 binaryOp Add" => ((k_here; (with_reducible show wpAny _ _ (binaryOp Operator.Add (Value.ref _) (Value.ref _)) _ _ _); k_dflt (refine' Mine.add_lst ?Fm ?N ?y5 ?y6 ?y7 ?y8 ?_; (case Fm => k_asm); (case N => k_asm); (case y5 => walk_at "mine mem"); (case y6 => walk_at "mine mem"); (case y7 => first | omega | exact Nat.le_of_ble_eq_true rfl); (case y8 => first | omega | exact Nat.le_of_ble_eq_true rfl); k_whole); intro D' h' F' N' l1; (try k_lt l1)))
 trivial
theorem Mine.pal_t2
 {oc : Obj} {size number : Int} {t1 t2 t3 : Tok} {D : Addr} {ps : List Value} {es : List (List Int)} {k : Nat}  (H : Mine.Here w h₀ L s.heap m news frs l p loose mean mg mb (Mine.fnScope 32) dp un 8)
 (hcl : (L + 1, oc) ∈ news) (hoc : oc.data = .cell (some (.int number t3))) (v1 : m "size" = some (.int size t2)) (v2 : m "form" = some (.int 2 t1)) (v3 : m "entries" = some (.ref D)) (hD : (D, W.listOf ps.toArray k) ∈ news) (hpa : Mine.PalAre news ps es) (hpl : ps.length ≤ 256) (hs : 1 ≤ size) (hs2 : size ≤ 256) (hn : 0 ≤ number) (hn2 : number ≤ 70000) (hret : ∀ l2 h' tk' nw m', (∀ p ∈ news, p ∈ nw) → Mine.PalList nw l2 es → Fr h₀ L h' m' → News h₀ L h' nw → Q (.ret (.ref l2)) { s with heap := h', toks := tk' }) :
 wpAny (model rw_ar0036_02.row.prog w) ((Mine.Fa dp un (some []) l).deeper (envOfC nm (Mine.fnScope 32) L fa cd)) (execs (Mine.fnAt 32 4 :: Mine.fnAt 32 5 :: Mine.fnAt 32 6 :: Mine.fnAt 32 7 :: [Mine.fnAt 32 8]) (envOfC nm (Mine.fnScope 32) L fa cd)) Q (Mine.Out w ((Mine.Fa dp un (some []) l).deeper (envOfC nm (Mine.fnScope 32) L fa cd)) (envOfC nm (Mine.fnScope 32) L fa cd) R) s := by
 obtain ⟨F, X, N, T, Fs, sub, hk, hdp, hun⟩ := H
 (repeat (conv in Mine.fnAt _ _ => whnf))
 walk_at "mine lit"
 w_on
 w_strict (
  revert X
  k_fill
  intro X
  
  k_steps)
 all_goals first | exact (Str.ofString "") | exact (0 : Nat) | exact Value.none | skip
 all_goals ((try dsimp only); refine' hret _ _ _ _ _ ?b ?y1 ?F ?N; (case F => assumption); (case N => assumption); (case b => walk_at "mine sub2"); (case y1 => exact ⟨_, _, hD, hpa⟩))
theorem Mine.pal_t4
 {oc : Obj} {size number : Int} {t1 t2 t3 : Tok} {D : Addr} {ps : List Value} {es : List (List Int)} {k : Nat}  (H : Mine.Here w h₀ L s.heap m news frs l p loose mean mg mb (Mine.fnScope 32) dp un 8)
 (hcl : (L + 1, oc) ∈ news) (hoc : oc.data = .cell (some (.int number t3))) (v1 : m "size" = some (.int size t2)) (v2 : m "form" = some (.int 4 t1)) (v3 : m "entries" = some (.ref D)) (hD : (D, W.listOf ps.toArray k) ∈ news) (hpa : Mine.PalAre news ps es) (hpl : ps.length ≤ 256) (hs : 1 ≤ size) (hs2 : size ≤ 256) (hn : 0 ≤ number) (hn2 : number ≤ 70000) (hret : ∀ l2 h' tk' nw m', (∀ p ∈ news, p ∈ nw) → Mine.PalList nw l2 (es ++ [[1, 2, 3, 4]]) → Fr h₀ L h' m' → News h₀ L h' nw → Q (.ret (.ref l2)) { s with heap := h', toks := tk' }) :
 wpAny (model rw_ar0036_02.row.prog w) ((Mine.Fa dp un (some []) l).deeper (envOfC nm (Mine.fnScope 32) L fa cd)) (execs (Mine.fnAt 32 4 :: Mine.fnAt 32 5 :: Mine.fnAt 32 6 :: Mine.fnAt 32 7 :: [Mine.fnAt 32 8]) (envOfC nm (Mine.fnScope 32) L fa cd)) Q (Mine.Out w ((Mine.Fa dp un (some []) l).deeper (envOfC nm (Mine.fnScope 32) L fa cd)) (envOfC nm (Mine.fnScope 32) L fa cd) R) s := by
 obtain ⟨F, X, N, T, Fs, sub, hk, hdp, hun⟩ := H
 (repeat (conv in Mine.fnAt _ _ => whnf))
 walk_at "mine lit"
 w_on
 w_strict (
  revert X
  k_fill
  intro X
  
  k_steps)
 all_goals first | exact (Str.ofString "") | exact (0 : Nat) | exact Value.none | skip
 all_goals ((try dsimp only); refine' hret _ _ _ _ _ ?b ?y1 ?F ?N; (case F => assumption); (case N => assumption); (case b => walk_at "mine sub2"); (case y1 => refine ⟨_, _, .head _, Mine.PalAre.app (hpa.mono (fun p hp => by walk_at "mine mem")) (.cons (by walk_at "mine mem") (.cons _ _ (.cons _ _ (.cons _ _ (.cons _ _ .nil)))) .nil)⟩))
theorem Mine.pal_t5
 {oc : Obj} {size number : Int} {t1 t2 t3 : Tok} {D : Addr} {ps : List Value} {es : List (List Int)} {k : Nat}  (H : Mine.Here w h₀ L s.heap m news frs l p loose mean mg mb (Mine.fnScope 32) dp un 8)
 (hcl : (L + 1, oc) ∈ news) (hoc : oc.data = .cell (some (.int number t3))) (v1 : m "size" = some (.int size t2)) (v2 : m "form" = some (.int 5 t1)) (v3 : m "entries" = some (.ref D)) (hD : (D, W.listOf ps.toArray k) ∈ news) (hpa : Mine.PalAre news ps es) (hpl : ps.length ≤ 256) (hs : 1 ≤ size) (hs2 : size ≤ 256) (hn : 0 ≤ number) (hn2 : number ≤ 70000) (hret : ∀ l2 h' tk' nw m', (∀ p ∈ news, p ∈ nw) → Mine.PalList nw l2 (es ++ [if number.fmod 2 = 0 then [0, 256 + number, 0] else [0, 0, -1 - number]]) → Fr h₀ L h' m' → News h₀ L h' nw → Q (.ret (.ref l2)) { s with heap := h', toks := tk' }) :
 wpAny (model rw_ar0036_02.row.prog w) ((Mine.Fa dp un (some []) l).deeper (envOfC nm (Mine.fnScope 32) L fa cd)) (execs (Mine.fnAt 32 4 :: Mine.fnAt 32 5 :: Mine.fnAt 32 6 :: Mine.fnAt 32 7 :: [Mine.fnAt 32 8]) (envOfC nm (Mine.fnScope 32) L fa cd)) Q (Mine.Out w ((Mine.Fa dp un (some []) l).deeper (envOfC nm (Mine.fnScope 32) L fa cd)) (envOfC nm (Mine.fnScope 32) L fa cd) R) s := by
 obtain ⟨F, X, N, T, Fs, sub, hk, hdp, hun⟩ := H
 (repeat (conv in Mine.fnAt _ _ => whnf))
 walk_at "mine lit"
 w_on
 w_strict (
  revert X
  k_fill
  intro X
  
  k_steps)
 all_goals first | exact (Str.ofString "") | exact (0 : Nat) | exact Value.none | skip
 all_goals ((try dsimp only); refine' hret _ _ _ _ _ ?b ?y1 ?F ?N; (case F => assumption); (case N => assumption); (case b => walk_at "mine sub2"); (case y1 => (try first | rw [if_pos (by assumption)] | rw [if_neg (by assumption)]); refine ⟨_, _, .head _, Mine.PalAre.app (hpa.mono (fun p hp => by walk_at "mine mem")) (.cons (by walk_at "mine mem") (.cons _ _ (.cons _ _ (.cons _ _ .nil))) .nil)⟩))
theorem Mine.pal_t6
 {oc : Obj} {size number : Int} {t1 t2 t3 : Tok} {D : Addr} {ps : List Value} {es : List (List Int)} {k : Nat}  (H : Mine.Here w h₀ L s.heap m news frs l p loose mean mg mb (Mine.fnScope 32) dp un 8)
 (hcl : (L + 1, oc) ∈ news) (hoc : oc.data = .cell (some (.int number t3))) (v1 : m "size" = some (.int size t2)) (v2 : m "form" = some (.int 6 t1)) (v3 : m "entries" = some (.ref D)) (hD : (D, W.listOf ps.toArray k) ∈ news) (hpa : Mine.PalAre news ps es) (hpl : ps.length ≤ 256) (hs : 1 ≤ size) (hs2 : size ≤ 256) (hn : 0 ≤ number) (hn2 : number ≤ 70000) (hret : ∀ l2 h' tk' nw m', (∀ p ∈ news, p ∈ nw) → Mine.PalList nw l2 (es ++ [if number.fmod 2 = 0 then [1, 2] else [1, 2, 3, 4, 5]]) → Fr h₀ L h' m' → News h₀ L h' nw → Q (.ret (.ref l2)) { s with heap := h', toks := tk' }) :
 wpAny (model rw_ar0036_02.row.prog w) ((Mine.Fa dp un (some []) l).deeper (envOfC nm (Mine.fnScope 32) L fa cd)) (execs (Mine.fnAt 32 4 :: Mine.fnAt 32 5 :: Mine.fnAt 32 6 :: Mine.fnAt 32 7 :: [Mine.fnAt 32 8]) (envOfC nm (Mine.fnScope 32) L fa cd)) Q (Mine.Out w ((Mine.Fa dp un (some []) l).deeper (envOfC nm (Mine.fnScope 32) L fa cd)) (envOfC nm (Mine.fnScope 32) L fa cd) R) s := by
 obtain ⟨F, X, N, T, Fs, sub, hk, hdp, hun⟩ := H
 (repeat (conv in Mine.fnAt _ _ => whnf))
 walk_at "mine lit"
 w_on
 w_strict (
  revert X
  k_fill
  intro X
  
  k_steps)
 all_goals first | exact (Str.ofString "") | exact (0 : Nat) | exact Value.none | skip
 all_goals ((try dsimp only); refine' hret _ _ _ _ _ ?b ?y1 ?F ?N; (case F => assumption); (case N => assumption); (case b => walk_at "mine sub2"); (case y1 => (try first | rw [if_pos (by assumption)] | rw [if_neg (by assumption)]); first | refine ⟨_, _, .head _, Mine.PalAre.app (hpa.mono (fun p hp => by walk_at "mine mem")) (.cons (by walk_at "mine mem") (.cons _ _ (.cons _ _ .nil)) .nil)⟩ | refine ⟨_, _, .head _, Mine.PalAre.app (hpa.mono (fun p hp => by walk_at "mine mem")) (.cons (by walk_at "mine mem") (.cons _ _ (.cons _ _ (.cons _ _ (.cons _ _ (.cons _ _ .nil))))) .nil)⟩))
end
section
local macro_rules | `(tactic| walk_at $s:str) => Mine.hand "i77 " s
theorem Mine.k33 : True := by
 k_with "i77 binaryOp Add" => ((k_here; (with_reducible show wpAny _ _ (binaryOp Operator.Add (Value.ref _) (Value.ref _)) _ _ _); k_dflt (refine' Mine.add_lst ?zlF ?zlN ?zl5 ?zl6 ?zl7 ?zl8 ?_; (case zlF => k_asm); (case zlN => k_asm); (case zl5 => walk_at "mine mem"); (case zl6 => walk_at "mine mem"); (case zl7 => first | omega | exact Nat.le_of_ble_eq_true rfl); (case zl8 => first | omega | exact Nat.le_of_ble_eq_true rfl); k_whole); intro D' h' F' N' l1; (try k_lt l1)))
 k_with "i77 binaryOp Add" => ((k_here; (with_reducible show wpAny _ _ (binaryOp Operator.Add (Value.ref ta) (Value.ref _)) _ _ _); k_dflt (refine' Mine.add_tup ?zqF ?zqN ?zq5 ?zq6 ?zq7 ?zq8 ?zq9 ?zqa ?_; (case zqF => k_asm); (case zqN => k_asm); (case zq5 => walk_at "mine mem"); (case zq6 => walk_at "mine mem"); (case zq7 => (intro e; rw [e] at hl9; exact absurd hl9 (by decide))); (case zq8 => exact List.cons_ne_nil _ _); (case zq9 => omega); (case zqa => exact Nat.le_of_ble_eq_true rfl); k_whole); intro D' h' F' N' l1; (try k_lt l1)))
 k_with "i77 eval ListComp" => ((k_here; k_dflt (refine LCg.ListComp_U (F₀ := by k_asm) (by rfl) (by decide) (by rfl) (by decide) (by rfl) ?_)))
 k_with "i77 subscriptTail Name Slice ref ref" => ((k_here; (with_reducible show wpAny _ _ (subscriptTail _ (PySem.Expr.Slice _ _ none _) (Value.ref _) (Value.ref _)) _ _ _); k_dflt (refine' kmk_slice_lit ?zkF ?zkN ?zkl ?zkp ?zkq ?zke ?_ ?zks ?zkt ?zkz; (case zkF => k_asm); (case zkN => k_asm); (case zkl => exact Mine.News.lst (by k_asm) (by walk_at "mine mem")); (case zkp => kmk_part); (case zkq => kmk_part); (case zke => first | exact Mine.sl_take hc0 | exact Mine.sl_drop hc0); (case zks => with_unfolding_all rfl); (case zkt => kmk_pure); (case zkz => (rw [List.size_toArray, sizeLine_eq]; omega))); intro D' h' F' N' l1; (try k_lt l1)))
 k_with "i77 CompSrc" => ((k_here; k_dflt (refine LCg.CompSrc.ledger (by rfl) (by k_asm) (by k_asm) (by walk_at "mine mem") ?y3 ?_); (case y3 => (rw [List.size_toArray, sizeLine_eq]; have := List.length_take_le' (1 + (number.fdiv 7).fmod size).toNat ps; omega)); intro g'; (refine' Mine.comp_ind (fun i ys nw => (∀ p ∈ news, p ∈ nw) ∧ (D', W.listOf (ps.take (1 + (number.fdiv 7).fmod size).toNat).toArray 0) ∈ nw ∧ Mine.PalAre nw ys (((es.take (1 + (number.fdiv 7).fmod size).toNat).take i).map (· ++ [number.fmod 256]))) ?y4 ?y5 ?y6); (case' y6 => exact ⟨fun p hp => by walk_at "mine mem", by walk_at "mine mem", .nil⟩); (case' y5 => (intro ys nw inv; obtain ⟨sub9, sl9, pal9⟩ := inv; have hD9 := sub9 _ hD; have hln9 := hpa.len; have hyl9 : ys.length ≤ 256 := (by have := pal9.len; simp only [List.length_map, List.length_take] at this; omega); have hdl9 : (ps.drop (1 + (number.fdiv 7).fmod size).toNat).length ≤ 256 := (by rw [List.length_drop]; omega); have pal8 : Mine.PalAre nw ys ((es.take (1 + (number.fdiv 7).fmod size).toNat).map (· ++ [number.fmod 256])) := (by rw [List.take_of_length_le (l := es.take (1 + (number.fdiv 7).fmod size).toNat) (by rw [List.size_toArray, List.length_take, List.length_take]; omega)] at pal9; exact pal9); (unfold LCg.FinE); intro D' h' tk' F' N' o1')); (case' y4 => (intro i ys nw v I oI C oC D m₂ h tk E' rest hi9 inv hP hC hx F N off ne hr; obtain ⟨sub9, sl9, pal9⟩ := inv; obtain ⟨ta, its9, e1, hv9, hdr, hta, hits, hmem⟩ := (hpa.take (1 + (number.fdiv 7).fmod size).toNat).at i v (by simpa using hP); subst hv9; have hc9 := sub9 _ hcl; have ht9 := sub9 _ hta; have hl9 := hits.length; rw [he3 _ (List.mem_of_mem_take hmem)] at hl9))))
 k_with "i77 CompEnd" => ((k_dflt (refine' Mine.compEnd1 ?ceF ?ceN ?ceo ?cet ?ceS ?ce9; (case ceF => k_asm); (case ceN => exact Mine.news_skip2 (by k_asm)); (case ceo => assumption); (case cet => exact ⟨by k_ne, by k_ne, by k_ne⟩); (case ceS => exact .inr ⟨_, .tail _ sl9, rfl, _, rfl⟩); (case ce9 => (refine hr _ _ ⟨fun p hp => .tail _ (sub9 p hp), .tail _ sl9, ?_⟩; rw [Mine.take_snoc hdr, List.map_append]; exact (pal9.mono (fun p hp => .tail _ hp)).app (.cons (.head _) (hits.append (.cons _ _ .nil)) .nil))))))
 trivial
theorem Mine.pal_t3 {w : World} {p : Program} {loose : List Str} {mean : ExcName → Option Value} {mg mb : Str → Option Value}
  {dp un : Nat} {nm : Str} {fa : Addr} {cd : Value} {l : List Env} {h₀ : Heap} {L : Addr} {m : Str → Option Value} {news frs : Mine.Led} {s : Shared} {Q : Flow → Shared → Prop} {R : Result → Shared → Prop}
  {oc : Obj} {size number : Int} {t1 t2 t3 : Tok} {D : Addr} {ps : List Value} {es : List (List Int)} {k : Nat}  (H : Mine.Here w h₀ L s.heap m news frs l p loose mean mg mb (Mine.fnScope 32) dp un 8)
  (he3 : ∀ e ∈ es, e.length = 3) (hc0 : 0 ≤ 1 + (number.fdiv 7).fmod size) (hcl : (L + 1, oc) ∈ news) (hoc : oc.data = .cell (some (.int number t3))) (v1 : m "size" = some (.int size t2)) (v2 : m "form" = some (.int 3 t1)) (v3 : m "entries" = some (.ref D)) (hD : (D, W.listOf ps.toArray k) ∈ news) (hpa : Mine.PalAre news ps es) (hpl : ps.length ≤ 256) (hs : 1 ≤ size) (hs2 : size ≤ 256) (hn : 0 ≤ number) (hn2 : number ≤ 70000) (hret : ∀ l2 h' tk' nw m', (∀ p ∈ news, p ∈ nw) → Mine.PalList nw l2 ((es.take (1 + (number.fdiv 7).fmod size).toNat).map (· ++ [number.fmod 256]) ++ es.drop (1 + (number.fdiv 7).fmod size).toNat) → Fr h₀ L h' m' → News h₀ L h' nw → Q (.ret (.ref l2)) { s with heap := h', toks := tk' }) :
  wpAny (model rw_ar0036_02.row.prog w) ((Mine.Fa dp un (some []) l).deeper (envOfC nm (Mine.fnScope 32) L fa cd)) (execs (Mine.fnAt 32 4 :: Mine.fnAt 32 5 :: Mine.fnAt 32 6 :: Mine.fnAt 32 7 :: [Mine.fnAt 32 8]) (envOfC nm (Mine.fnScope 32) L fa cd)) Q (Mine.Out w ((Mine.Fa dp un (some []) l).deeper (envOfC nm (Mine.fnScope 32) L fa cd)) (envOfC nm (Mine.fnScope 32) L fa cd) R) s := by
  obtain ⟨F, X, N, T, Fs, sub, hk, hdp, hun⟩ := H
  (repeat (conv in Mine.fnAt _ _ => whnf))
  walk_at "mine lit"
  w_on
  w_strict (
   revert X
   k_fill
   intro X
   
   k_steps)
  all_goals first | exact (Str.ofString "") | exact (0 : Nat) | exact Value.none | skip
  all_goals ((try dsimp only); refine' hret _ _ _ _ _ ?b ?y1 ?F ?N; (case F => assumption); (case N => assumption); (case b => exact fun p hp => .tail _ (.tail _ (.tail _ (sub9 p hp)))); (case y1 => exact ⟨_, _, .head _, (pal8.mono (fun p hp => .tail _ (.tail _ (.tail _ hp)))).app ((hpa.drop _).mono (fun p hp => .tail _ (.tail _ (.tail _ (sub9 p hp)))))⟩))
end
section
local macro_rules | `(tactic| walk_at $s:str) => Mine.hand "i78 " s
local macro_rules | `(tactic| walk_at "p") => Mine.pad
theorem Mine.k34 : True := by
 k_with "i78 CompSrc" => ((k_here; k_dflt (refine LCg.CompSrc.range (n := size.toNat) (by rfl) (by k_asm) (by k_asm) (by assumption) ?y1 ?y2 ?y3 ?_)))
 k_with "i78 CompEnd" => ((k_dflt (refine' Mine.compEnd1 ?F ?N ?off ?t ?S ?_; (case F => k_asm); (case N => k_asm); (case off => assumption); (case t => exact ⟨by k_ne, by k_ne, by k_ne⟩); (case S => exact trivial))))
 trivial
theorem Mine.pal_ent {w : World} {p : Program} {loose : List Str} {mean : ExcName → Option Value} {mg mb : Str → Option Value}
 {dp un : Nat} {nm : Str} {fa : Addr} {cd : Value} {l : List Env} {h₀ : Heap} {L : Addr} {m : Str → Option Value} {news frs : Mine.Led} {s : Shared} {Q : Flow → Shared → Prop} {R : Result → Shared → Prop}
 {oc : Obj} {size number : Int} {t2 t3 : Tok} (H : Mine.Here w h₀ L s.heap m news frs l p loose mean mg mb (Mine.fnScope 32) dp un 8)
 (hcl : (L + 1, oc) ∈ news) (hoc : oc.data = .cell (some (.int number t3))) (hoff : ∀ p ∈ news, p.1 ≠ L) (v1 : m "size" = some (.int size t2)) (hs : 1 ≤ size) (hs2 : size ≤ 256) (hret : ∀ D ps h' tk' nw, (∀ p ∈ news, p ∈ nw) → Mine.PalAre nw ps (Mine.ents number size.toNat) → LCg.Off1 D nw → Fr h₀ L h' (fun y => if y = "entries" then some (.ref D) else m y) → News h₀ L h' ((D, LCg.lst ps) :: nw) → Q .next { s with heap := h', toks := tk' }) :
 wpAny (model rw_ar0036_02.row.prog w) ((Mine.Fa dp un (some []) l).deeper (envOfC nm (Mine.fnScope 32) L fa cd)) (exec (Mine.fnAt 32 3) (envOfC nm (Mine.fnScope 32) L fa cd)) Q (Mine.Out w ((Mine.Fa dp un (some []) l).deeper (envOfC nm (Mine.fnScope 32) L fa cd)) (envOfC nm (Mine.fnScope 32) L fa cd) R) s := by
 obtain ⟨F, X, N, T, Fs, sub, hk, hdp, hun⟩ := H
 (conv => arg 3; arg 1; whnf)
 walk_at "mine lit"
 w_on
 w_strict (
  revert X
  k_fill
  intro X
  
  refine LCg.Assign_ListComp_U (F₀ := by k_asm) (by rfl) (by with_unfolding_all rfl) (by rfl) (by decide) (by rfl) (by decide) (by rfl) (by rfl) (by rfl) ?_
  k_dflt lcg_toSrc
  case y1 => exact Mine.small_up hs (Int.le_trans hs2 (by decide))
  case y2 => (rw [rangeSize_nat, Int.sub_zero])
  case y3 => (rw [sizeLine_eq]; omega)
  intro g'
  refine' Mine.comp_ind (fun i ys nw => (∀ p ∈ news, p ∈ nw) ∧ Mine.PalAre nw ys (Mine.ents number i)) ?y4 ?y5 ⟨fun _ h => h, .nil⟩
  case y5 =>
   intro ys nw inv D h tk F' N' o1'
   exact hret _ _ _ _ _ inv.1 inv.2 o1' F' N'
  case y4 =>
   intro i ys nw v I oI C oC D m₂ h tk E' rest hi inv hP hC hx F' N' off ne hr
   obtain ⟨t9, rfl⟩ := hP
   rw [Int.zero_add] at hx
   obtain ⟨sub9, pal9⟩ := inv
   have hc9 : (L + 1, oc) ∈ (I, oI) :: (C, oC) :: (D, LCg.lst ys) :: nw := .tail _ (.tail _ (.tail _ (sub9 _ hcl)))
   k_steps
   refine hr _ _ ⟨fun p hp => .tail _ (sub9 p hp), ?_⟩
   rw [Mine.ents_succ]
   exact (pal9.mono (fun p hp => .tail _ hp)).app (.cons (.head _) (.cons _ _ (.cons _ _ (.cons _ _ .nil))) .nil))
 all_goals skip
end
section
variable {w : World} {p : Program} {loose : List Str} {mean : ExcName → Option Value} {mg mb : Str → Option Value}
namespace Mine
theorem PalAre.off {nw nw' : Led} (h : ∀ a o, (a, o) ∈ nw → (∃ vs n, o.data = .seq vs n) → (a, o) ∈ nw') : ∀ {vs : List Value} {es : List (List Int)}, PalAre nw vs es → PalAre nw' vs es
  | _, _, .nil => .nil
  | _, _, .cons a b r => .cons (h _ _ a ⟨_, _, rfl⟩) b (r.off h)
def Trip (e : List Int) : Prop := e.length = 3 ∧ ∀ x ∈ e, 0 ≤ x ∧ x ≤ 255
def Quad (e : List Int) : Prop := e.length = 4 ∧ ∀ x ∈ e, 0 ≤ x ∧ x ≤ 255
theorem all_in {e : List Int} (h : ∀ x ∈ e, 0 ≤ x ∧ x ≤ 255) : e.all (fun x => decide (0 ≤ x) && decide (x ≤ 255)) = true := by
  rw [List.all_eq_true]
  intro x hx
  simp only [Bool.and_eq_true, decide_eq_true_eq]
  exact h x hx
theorem palOk_trips : ∀ {es r : List (List Int)} {sb : Bool}, (∀ e ∈ es, Trip e) → palOk sb (es ++ r) = palOk (sb || decide (es ≠ [])) r
  | [], r, sb, _ => by simp
  | e :: es, r, sb, h => by
    have he := h e (.head _)
    have := palOk_trips (es := es) (r := r) (sb := true) fun e' h' => h e' (.tail _ h')
    show ((e.length == 3 || e.length == 4) && !(sb && e.length == 4) && e.all (fun x => decide (0 ≤ x) && decide (x ≤ 255)) && palOk (sb || e.length == 3) (es ++ r)) = _
    rw [all_in he.2, he.1]
    simp [this]
theorem palOk_quads : ∀ {es r : List (List Int)}, (∀ e ∈ es, Quad e) → palOk false (es ++ r) = palOk false r
  | [], r, _ => rfl
  | e :: es, r, h => by
    have he := h e (.head _)
    have := palOk_quads (es := es) (r := r) fun e' h' => h e' (.tail _ h')
    show ((e.length == 3 || e.length == 4) && !(false && e.length == 4) && e.all (fun x => decide (0 ≤ x) && decide (x ≤ 255)) && palOk (false || e.length == 3) (es ++ r)) = _
    rw [all_in he.2, he.1]
    simp [this]
theorem ents_len (number : Int) (k : Nat) : (ents number k).length = k := by unfold ents; simp
theorem ents_trip {number : Int} {k : Nat} (hk : k ≤ 256) : ∀ e ∈ ents number k, Trip e := fun e he => by
  obtain ⟨i, hi, rfl⟩ := List.mem_map.mp he
  have hi2 := List.mem_range.mp hi
  have := fmB (z := number) (k := 256) (by decide)
  refine ⟨rfl, fun x hx => ?_⟩
  simp only [List.mem_cons, List.not_mem_nil, or_false] at hx
  rcases hx with rfl | rfl | rfl <;> omega
theorem good_2 {number : Int} {k : Nat} (h1 : 1 ≤ k) (hk : k ≤ 256) : PalGood (ents number k) := by
  refine ⟨by rw [ents_len]; omega, by rw [ents_len]; exact hk, ?_⟩
  have := palOk_trips (r := []) (sb := false) (ents_trip (number := number) hk)
  rw [List.append_nil] at this
  rw [this]; rfl
theorem good_3 {number : Int} {k c : Nat} (h1 : 1 ≤ k) (hk : k ≤ 256) (hc : c ≤ k) : PalGood (((ents number k).take c).map (· ++ [number.fmod 256]) ++ (ents number k).drop c) := by
  have hl : (((ents number k).take c).map (· ++ [number.fmod 256]) ++ (ents number k).drop c).length = k := by
    simp only [List.length_append, List.length_map, List.length_take, List.length_drop, ents_len]; omega
  refine ⟨by rw [hl]; omega, by rw [hl]; exact hk, ?_⟩
  rw [palOk_quads]
  · have := palOk_trips (r := []) (sb := false) (es := (ents number k).drop c) fun e he => ents_trip hk e (List.mem_of_mem_drop he)
    rw [List.append_nil] at this
    rw [this]; rfl
  · intro e he
    obtain ⟨e', he', rfl⟩ := List.mem_map.mp he
    obtain ⟨a, b⟩ := ents_trip (number := number) hk e' (List.mem_of_mem_take he')
    have := fmB (z := number) (k := 256) (by decide)
    refine ⟨by rw [List.length_append, a]; rfl, fun x hx => ?_⟩
    rcases List.mem_append.mp hx with hx | hx
    · exact b x hx
    · rw [List.mem_singleton] at hx; subst hx; omega
theorem bad_last {number : Int} {k : Nat} {e : List Int} (h1 : 1 ≤ k) (hk : k ≤ 256) (he : palOk true [e] = false) : ¬ PalGood (ents number k ++ [e]) := fun h => by
  have := h.2.2
  rw [palOk_trips (ents_trip hk)] at this
  have hne : ents number k ≠ [] := fun q => by
    have := congrArg List.length q
    rw [ents_len] at this
    simp at this; omega
  simp only [Bool.false_or, hne, ne_eq, not_false_eq_true, decide_true] at this
  rw [he] at this; cases this
theorem bad_5 {number : Int} (hn : 0 ≤ number) : palOk true [if number.fmod 2 = 0 then [0, 256 + number, 0] else [0, 0, -1 - number]] = false := by
  split
  · simp [palOk]; omega
  · simp [palOk]; omega
theorem bad_6 {number : Int} : palOk true [if number.fmod 2 = 0 then [1, 2] else [1, 2, 3, 4, 5]] = false := by
  split <;> rfl
theorem cells32 {cm : Str → Option Value} {a : Addr} {cells : Led} (Y : CellsAre cm (cellsFrom a (fnScope 32).names []) cells) : ∃ o, cells = [(a, o)] ∧ o.data = .cell (cm "number") := by
  have e : cellsFrom a (fnScope 32).names [] = [(("number" : PySem.Str), a)] := rfl
  rw [e] at Y
  cases Y with
  | cons h r => cases r; exact ⟨_, rfl, h⟩
theorem fnStmts32 : fnStmts 32 = [fnAt 32 0, fnAt 32 1, fnAt 32 2, fnAt 32 3, fnAt 32 4, fnAt 32 5, fnAt 32 6, fnAt 32 7, fnAt 32 8] := by rfl
end Mine
theorem Mine.pal_pre
 {dp un : Nat} {nm : Str} {fa : Addr} {cd : Value} {l : List Env} {h₀ : Heap} {L : Addr} {m : Str → Option Value} {news frs : Mine.Led} {s : Shared} {Q : Flow → Shared → Prop} {R : Result → Shared → Prop}
 {tl : List Stmt} {form : Int} {t1 : Tok} (H : Mine.Here w h₀ L s.heap m news frs l p loose mean mg mb (Mine.fnScope 32) dp un 8)
 (v2 : m "form" = some (.int form t1)) (h2 : 2 ≤ form) (h7 : form ≠ 7) (h8 : form ≠ 8) (hret : ∀ tk', wpAny (model rw_ar0036_02.row.prog w) ((Mine.Fa dp un (some []) l).deeper (envOfC nm (Mine.fnScope 32) L fa cd)) (execs tl (envOfC nm (Mine.fnScope 32) L fa cd)) Q (Mine.Out w ((Mine.Fa dp un (some []) l).deeper (envOfC nm (Mine.fnScope 32) L fa cd)) (envOfC nm (Mine.fnScope 32) L fa cd) R) { s with toks := tk' }) :
 wpAny (model rw_ar0036_02.row.prog w) ((Mine.Fa dp un (some []) l).deeper (envOfC nm (Mine.fnScope 32) L fa cd)) (execs (Mine.fnAt 32 0 :: Mine.fnAt 32 1 :: Mine.fnAt 32 2 :: tl) (envOfC nm (Mine.fnScope 32) L fa cd)) Q (Mine.Out w ((Mine.Fa dp un (some []) l).deeper (envOfC nm (Mine.fnScope 32) L fa cd)) (envOfC nm (Mine.fnScope 32) L fa cd) R) s := by
 obtain ⟨F, X, N, T, Fs, sub, hk, hdp, hun⟩ := H
 (repeat (conv in Mine.fnAt _ _ => whnf))
 walk_at "mine lit"
 w_on
 w_strict (
  revert X
  k_fill
  intro X
  
  k_steps)
 all_goals first | exact (Str.ofString "") | exact (0 : Nat) | exact Value.none | skip
 all_goals first | exact hret _ | (exfalso; omega) | (exfalso; simp_all; done)
theorem Mine.pal_enter
 {dp un : Nat} {nm : Str} {fa : Addr} {cd : Value} {l : List Env} {h₀ : Heap} {L : Addr} {m : Str → Option Value} {news frs : Mine.Led} {s : Shared} {Q E : Value → Shared → Prop} {form size number : Int} {t1 t2 t3 : Tok} (H : Mine.Here w h₀ L s.heap m news frs l p loose mean mg mb (Mine.fnScope 34) dp un 10)
 (body : ∀ oL L' h₁ tk m' oc, TI.Caller h₀ L m oL → (∀ p ∈ news, p.1 ≠ L) → m' "form" = some (.int form t1) → m' "size" = some (.int size t2) → oc.data = .cell (some (.int number t3)) →
  Mine.Here w h₀ L' h₁ m' ((L' + 1, oc) :: (L, oL) :: news) ((L, oL) :: frs) ((envOfC nm (Mine.fnScope 34) L fa cd) :: l) p loose mean mg mb (Mine.fnScope 32) (dp + 1) (un + 3) 8 →
  wpAny (model rw_ar0036_02.row.prog w) ((Mine.Fa (dp + 1) (un + 3) (some []) ((envOfC nm (Mine.fnScope 34) L fa cd) :: l)).deeper (envOfC "_law_palette" (Mine.fnScope 32) L' 421 (.ref 420))) (execs (Mine.fnStmts 32) (envOfC "_law_palette" (Mine.fnScope 32) L' 421 (.ref 420)))
   (fun fl s' => Mine.LeaveM (Q (match fl with | .ret v => v | _ => .none) s'))
   (Mine.Out w ((Mine.Fa (dp + 1) (un + 3) (some []) ((envOfC nm (Mine.fnScope 34) L fa cd) :: l)).deeper (envOfC "_law_palette" (Mine.fnScope 32) L' 421 (.ref 420))) (envOfC "_law_palette" (Mine.fnScope 32) L' 421 (.ref 420)) (fun r s' => match r with | .ok (.ret v) => Q v s' | .ok _ => False | .error e => E e s'))
   { s with heap := h₁, toks := tk }) :
 wpAny (model rw_ar0036_02.row.prog w) ((Mine.Fa dp un (some []) l).deeper (envOfC nm (Mine.fnScope 34) L fa cd)) (call (.ref 421) [.int form t1, .int size t2, .int number t3]) Q E s := by
 obtain ⟨F, X, N, T, Fs, sub, hk, hdp, hun⟩ := H
 w_on
 w_strict (
  revert X
  k_fill
  intro X
  (refine wpAny_call ?_)
  with_unfolding_all refine' Mine.enterFC (name := "_law_palette") (qual := "_law_palette") (body := Mine.fnStmts 32) (scope := Mine.fnScope 32) (binds := [("form", Value.int form t1), ("size", Value.int size t2), ("number", Value.int number t3)]) F X N T Fs sub ?kA ?kf ?kke ?k6 ?k7 ?k8 ?k9 ?kB ?kD ?_ ?c2 ?c3 ?c4
  case kA => exact rfl
  case kf => exact rfl
  case kke => exact hk
  case k6 => k_is
  case k7 => k_is
  case k8 => first | ktr_room | k_room
  case k9 => first | exact BindsTo.of_eq rfl
  case kB => exact rfl
  case kD => decide +kernel
  case c2 => exact rfl
  case c3 => exact rfl
  case c4 => exact rfl)
 intro oL L' h₁ tk cells C' Fs' sub' lt' up' ne' F' N' Y'
 obtain ⟨oc, rfl, hoc⟩ := Mine.cells32 Y'
 exact body oL L' h₁ _ _ oc C' ne' rfl rfl hoc ⟨F', X, N', T, Fs', fun p hp => .tail _ (sub' p hp), rfl, by omega, by omega⟩
theorem Mine.law_pal_2
  {dp un : Nat} {nm : Str} {fa : Addr} {cd : Value} {l : List Env} {h₀ : Heap} {L : Addr} {m : Str → Option Value} {news frs : Mine.Led} {s : Shared} {Q E : Value → Shared → Prop} {size number : Int} {t1 t2 t3 : Tok} (H : Mine.Here w h₀ L s.heap m news frs l p loose mean mg mb (Mine.fnScope 34) dp un 10)
  (hs : 1 ≤ size) (hs2 : size ≤ 256) (hn : 0 ≤ number) (hn2 : number ≤ 70000) (hret : ∀ l2 ps n es h' tk' nw, (∀ p ∈ news, p ∈ nw) → (l2, W.listOf ps.toArray n) ∈ nw → Mine.PalAre nw ps es → ps.length ≤ 300 → (∀ e ∈ es, e.length ≤ 8) → (Mine.PalGood es ↔ 2 ≤ 3) → Fr h₀ L h' m → News h₀ L h' nw → Q (.ref l2) { s with heap := h', toks := tk' }) :
  wpAny (model rw_ar0036_02.row.prog w) ((Mine.Fa dp un (some []) l).deeper (envOfC nm (Mine.fnScope 34) L fa cd)) (call (.ref 421) [.int 2 t1, .int size t2, .int number t3]) Q E s := by
  refine Mine.pal_enter H fun oL L' h₁ tk m' oc C hne v1 v2 hoc H1 => ?_
  rw [Mine.fnStmts32]
  have k1 : 1 ≤ size.toNat := by omega
  have k2 : size.toNat ≤ 256 := by omega
  have h33 : ∀ e ∈ Mine.ents number size.toNat, e.length = 3 := fun e he => (Mine.ents_trip k2 e he).1
  have h3 : ∀ e ∈ Mine.ents number size.toNat, e.length ≤ 8 := fun e he => by rw [h33 e he]; decide
  have hel := Mine.ents_len number size.toNat
  refine Mine.pal_pre H1 v1 (by decide) (by decide) (by decide) fun tk1 => ?_
  refine wpAny_execs_cons (Mine.pal_ent (s := { s with heap := h₁, toks := tk1 }) H1 (.head _) hoc (fun p hp => (H1.N p hp).2.1) v2 hs hs2 fun D ps h2 tk2 nw s2 pal off F2 N2 => ?_)
  have hln := pal.len
  rw [hel] at hln
  have H2 : Mine.Here w h₀ L' h2 _ ((D, LCg.lst ps) :: nw) ((L, oL) :: frs) ((envOfC nm (Mine.fnScope 34) L fa cd) :: l) p loose mean mg mb (Mine.fnScope 32) (dp + 1) (un + 3) 8 := ⟨F2, H1.X, N2, H1.T, H1.Fs, fun p hp => .tail _ (s2 p (H1.sub p hp)), H1.k, H1.d, H1.u⟩
  have w1 : (fun y : PySem.Str => if y = "entries" then some (Value.ref D) else m' y) "form" = some (.int 2 t1) := (if_neg (by decide)).trans v1
  have w2 : (fun y : PySem.Str => if y = "entries" then some (Value.ref D) else m' y) "size" = some (.int size t2) := (if_neg (by decide)).trans v2
  have w3 : (fun y : PySem.Str => if y = "entries" then some (Value.ref D) else m' y) "entries" = some (.ref D) := if_pos rfl
  refine Mine.pal_t2 (s := { s with heap := h2, toks := tk2 }) H2 (.tail _ (s2 _ (.head _))) hoc w2 w1 w3 (k := ps.length) (.head _) (pal.mono fun p hp => .tail _ hp) (by omega) hs hs2 hn hn2 fun l2 h4 tk4 nw4 m4 s4 pl4 F4 N4 => ?_
  show Mine.LeaveM (Q (.ref l2) _)
  obtain ⟨F5, N5, off5⟩ := Mine.leave_any C F4 N4 (s4 _ (.tail _ (s2 _ (.tail _ (.head _)))))
  obtain ⟨ps4, n4, hl4, pa4⟩ := pl4
  have ln4 := pa4.len
  refine hret l2 ps4 n4 _ h4 tk4 _ (fun p hp => ?_) (off5 _ _ hl4 ⟨_, _, rfl⟩) (pa4.off fun a o ha hs => off5 a o ha hs) ?_ (fun e he => (h3 e he)) ⟨fun _ => by decide, fun _ => Mine.good_2 k1 k2⟩ F5 N5
  · exact List.mem_filter.mpr ⟨s4 _ (.tail _ (s2 _ (.tail _ (.tail _ hp)))), by simpa using hne p hp⟩
  · rw [ln4]
    first | (simp only [List.length_append, List.length_map, List.length_take, List.length_drop, hel, List.length_cons, List.length_nil]; omega) | (rw [hel]; omega)
theorem Mine.law_pal_3
  {dp un : Nat} {nm : Str} {fa : Addr} {cd : Value} {l : List Env} {h₀ : Heap} {L : Addr} {m : Str → Option Value} {news frs : Mine.Led} {s : Shared} {Q E : Value → Shared → Prop} {size number : Int} {t1 t2 t3 : Tok} (H : Mine.Here w h₀ L s.heap m news frs l p loose mean mg mb (Mine.fnScope 34) dp un 10)
  (hs : 1 ≤ size) (hs2 : size ≤ 256) (hn : 0 ≤ number) (hn2 : number ≤ 70000) (hret : ∀ l2 ps n es h' tk' nw, (∀ p ∈ news, p ∈ nw) → (l2, W.listOf ps.toArray n) ∈ nw → Mine.PalAre nw ps es → ps.length ≤ 300 → (∀ e ∈ es, e.length ≤ 8) → (Mine.PalGood es ↔ 3 ≤ 3) → Fr h₀ L h' m → News h₀ L h' nw → Q (.ref l2) { s with heap := h', toks := tk' }) :
  wpAny (model rw_ar0036_02.row.prog w) ((Mine.Fa dp un (some []) l).deeper (envOfC nm (Mine.fnScope 34) L fa cd)) (call (.ref 421) [.int 3 t1, .int size t2, .int number t3]) Q E s := by
  refine Mine.pal_enter H fun oL L' h₁ tk m' oc C hne v1 v2 hoc H1 => ?_
  rw [Mine.fnStmts32]
  have k1 : 1 ≤ size.toNat := by omega
  have k2 : size.toNat ≤ 256 := by omega
  have h33 : ∀ e ∈ Mine.ents number size.toNat, e.length = 3 := fun e he => (Mine.ents_trip k2 e he).1
  have h3 : ∀ e ∈ Mine.ents number size.toNat, e.length ≤ 8 := fun e he => by rw [h33 e he]; decide
  have hel := Mine.ents_len number size.toNat
  refine Mine.pal_pre H1 v1 (by decide) (by decide) (by decide) fun tk1 => ?_
  refine wpAny_execs_cons (Mine.pal_ent (s := { s with heap := h₁, toks := tk1 }) H1 (.head _) hoc (fun p hp => (H1.N p hp).2.1) v2 hs hs2 fun D ps h2 tk2 nw s2 pal off F2 N2 => ?_)
  have hln := pal.len
  rw [hel] at hln
  have H2 : Mine.Here w h₀ L' h2 _ ((D, LCg.lst ps) :: nw) ((L, oL) :: frs) ((envOfC nm (Mine.fnScope 34) L fa cd) :: l) p loose mean mg mb (Mine.fnScope 32) (dp + 1) (un + 3) 8 := ⟨F2, H1.X, N2, H1.T, H1.Fs, fun p hp => .tail _ (s2 p (H1.sub p hp)), H1.k, H1.d, H1.u⟩
  have w1 : (fun y : PySem.Str => if y = "entries" then some (Value.ref D) else m' y) "form" = some (.int 3 t1) := (if_neg (by decide)).trans v1
  have w2 : (fun y : PySem.Str => if y = "entries" then some (Value.ref D) else m' y) "size" = some (.int size t2) := (if_neg (by decide)).trans v2
  have w3 : (fun y : PySem.Str => if y = "entries" then some (Value.ref D) else m' y) "entries" = some (.ref D) := if_pos rfl
  have hc := Mine.fmB (z := number.fdiv 7) (k := size) (by omega)
  have hck : (1 + (number.fdiv 7).fmod size).toNat ≤ size.toNat := by omega
  refine Mine.pal_t3 (s := { s with heap := h2, toks := tk2 }) H2 h33 (by omega) (.tail _ (s2 _ (.head _))) hoc w2 w1 w3 (k := ps.length) (.head _) (pal.mono fun p hp => .tail _ hp) (by omega) hs hs2 hn hn2 fun l2 h4 tk4 nw4 m4 s4 pl4 F4 N4 => ?_
  show Mine.LeaveM (Q (.ref l2) _)
  obtain ⟨F5, N5, off5⟩ := Mine.leave_any C F4 N4 (s4 _ (.tail _ (s2 _ (.tail _ (.head _)))))
  obtain ⟨ps4, n4, hl4, pa4⟩ := pl4
  have ln4 := pa4.len
  refine hret l2 ps4 n4 _ h4 tk4 _ (fun p hp => ?_) (off5 _ _ hl4 ⟨_, _, rfl⟩) (pa4.off fun a o ha hs => off5 a o ha hs) ?_ (fun e he => (by rcases List.mem_append.mp he with he | he; (obtain ⟨e2, he2, rfl⟩ := List.mem_map.mp he; rw [List.length_append, h33 e2 (List.mem_of_mem_take he2)]; exact Nat.le_of_ble_eq_true rfl); exact h3 e (List.mem_of_mem_drop he))) ⟨fun _ => by decide, fun _ => Mine.good_3 k1 k2 hck⟩ F5 N5
  · exact List.mem_filter.mpr ⟨s4 _ (.tail _ (s2 _ (.tail _ (.tail _ hp)))), by simpa using hne p hp⟩
  · rw [ln4]
    first | (simp only [List.length_append, List.length_map, List.length_take, List.length_drop, hel, List.length_cons, List.length_nil]; omega) | (rw [hel]; omega)
theorem Mine.law_pal_4
  {dp un : Nat} {nm : Str} {fa : Addr} {cd : Value} {l : List Env} {h₀ : Heap} {L : Addr} {m : Str → Option Value} {news frs : Mine.Led} {s : Shared} {Q E : Value → Shared → Prop} {size number : Int} {t1 t2 t3 : Tok} (H : Mine.Here w h₀ L s.heap m news frs l p loose mean mg mb (Mine.fnScope 34) dp un 10)
  (hs : 1 ≤ size) (hs2 : size ≤ 256) (hn : 0 ≤ number) (hn2 : number ≤ 70000) (hret : ∀ l2 ps n es h' tk' nw, (∀ p ∈ news, p ∈ nw) → (l2, W.listOf ps.toArray n) ∈ nw → Mine.PalAre nw ps es → ps.length ≤ 300 → (∀ e ∈ es, e.length ≤ 8) → (Mine.PalGood es ↔ 4 ≤ 3) → Fr h₀ L h' m → News h₀ L h' nw → Q (.ref l2) { s with heap := h', toks := tk' }) :
  wpAny (model rw_ar0036_02.row.prog w) ((Mine.Fa dp un (some []) l).deeper (envOfC nm (Mine.fnScope 34) L fa cd)) (call (.ref 421) [.int 4 t1, .int size t2, .int number t3]) Q E s := by
  refine Mine.pal_enter H fun oL L' h₁ tk m' oc C hne v1 v2 hoc H1 => ?_
  rw [Mine.fnStmts32]
  have k1 : 1 ≤ size.toNat := by omega
  have k2 : size.toNat ≤ 256 := by omega
  have h33 : ∀ e ∈ Mine.ents number size.toNat, e.length = 3 := fun e he => (Mine.ents_trip k2 e he).1
  have h3 : ∀ e ∈ Mine.ents number size.toNat, e.length ≤ 8 := fun e he => by rw [h33 e he]; decide
  have hel := Mine.ents_len number size.toNat
  refine Mine.pal_pre H1 v1 (by decide) (by decide) (by decide) fun tk1 => ?_
  refine wpAny_execs_cons (Mine.pal_ent (s := { s with heap := h₁, toks := tk1 }) H1 (.head _) hoc (fun p hp => (H1.N p hp).2.1) v2 hs hs2 fun D ps h2 tk2 nw s2 pal off F2 N2 => ?_)
  have hln := pal.len
  rw [hel] at hln
  have H2 : Mine.Here w h₀ L' h2 _ ((D, LCg.lst ps) :: nw) ((L, oL) :: frs) ((envOfC nm (Mine.fnScope 34) L fa cd) :: l) p loose mean mg mb (Mine.fnScope 32) (dp + 1) (un + 3) 8 := ⟨F2, H1.X, N2, H1.T, H1.Fs, fun p hp => .tail _ (s2 p (H1.sub p hp)), H1.k, H1.d, H1.u⟩
  have w1 : (fun y : PySem.Str => if y = "entries" then some (Value.ref D) else m' y) "form" = some (.int 4 t1) := (if_neg (by decide)).trans v1
  have w2 : (fun y : PySem.Str => if y = "entries" then some (Value.ref D) else m' y) "size" = some (.int size t2) := (if_neg (by decide)).trans v2
  have w3 : (fun y : PySem.Str => if y = "entries" then some (Value.ref D) else m' y) "entries" = some (.ref D) := if_pos rfl
  refine Mine.pal_t4 (s := { s with heap := h2, toks := tk2 }) H2 (.tail _ (s2 _ (.head _))) hoc w2 w1 w3 (k := ps.length) (.head _) (pal.mono fun p hp => .tail _ hp) (by omega) hs hs2 hn hn2 fun l2 h4 tk4 nw4 m4 s4 pl4 F4 N4 => ?_
  show Mine.LeaveM (Q (.ref l2) _)
  obtain ⟨F5, N5, off5⟩ := Mine.leave_any C F4 N4 (s4 _ (.tail _ (s2 _ (.tail _ (.head _)))))
  obtain ⟨ps4, n4, hl4, pa4⟩ := pl4
  have ln4 := pa4.len
  refine hret l2 ps4 n4 _ h4 tk4 _ (fun p hp => ?_) (off5 _ _ hl4 ⟨_, _, rfl⟩) (pa4.off fun a o ha hs => off5 a o ha hs) ?_ (fun e he => (by rcases List.mem_append.mp he with he | he; exact h3 e he; (rw [List.mem_singleton] at he; subst he; first | decide | (split <;> exact Nat.le_of_ble_eq_true rfl)))) ⟨fun h => absurd h (Mine.bad_last k1 k2 rfl), fun h => absurd h (by decide)⟩ F5 N5
  · exact List.mem_filter.mpr ⟨s4 _ (.tail _ (s2 _ (.tail _ (.tail _ hp)))), by simpa using hne p hp⟩
  · rw [ln4]
    first | (simp only [List.length_append, List.length_map, List.length_take, List.length_drop, hel, List.length_cons, List.length_nil]; omega) | (rw [hel]; omega)
theorem Mine.law_pal_5
  {dp un : Nat} {nm : Str} {fa : Addr} {cd : Value} {l : List Env} {h₀ : Heap} {L : Addr} {m : Str → Option Value} {news frs : Mine.Led} {s : Shared} {Q E : Value → Shared → Prop} {size number : Int} {t1 t2 t3 : Tok} (H : Mine.Here w h₀ L s.heap m news frs l p loose mean mg mb (Mine.fnScope 34) dp un 10)
  (hs : 1 ≤ size) (hs2 : size ≤ 256) (hn : 0 ≤ number) (hn2 : number ≤ 70000) (hret : ∀ l2 ps n es h' tk' nw, (∀ p ∈ news, p ∈ nw) → (l2, W.listOf ps.toArray n) ∈ nw → Mine.PalAre nw ps es → ps.length ≤ 300 → (∀ e ∈ es, e.length ≤ 8) → (Mine.PalGood es ↔ 5 ≤ 3) → Fr h₀ L h' m → News h₀ L h' nw → Q (.ref l2) { s with heap := h', toks := tk' }) :
  wpAny (model rw_ar0036_02.row.prog w) ((Mine.Fa dp un (some []) l).deeper (envOfC nm (Mine.fnScope 34) L fa cd)) (call (.ref 421) [.int 5 t1, .int size t2, .int number t3]) Q E s := by
  refine Mine.pal_enter H fun oL L' h₁ tk m' oc C hne v1 v2 hoc H1 => ?_
  rw [Mine.fnStmts32]
  have k1 : 1 ≤ size.toNat := by omega
  have k2 : size.toNat ≤ 256 := by omega
  have h33 : ∀ e ∈ Mine.ents number size.toNat, e.length = 3 := fun e he => (Mine.ents_trip k2 e he).1
  have h3 : ∀ e ∈ Mine.ents number size.toNat, e.length ≤ 8 := fun e he => by rw [h33 e he]; decide
  have hel := Mine.ents_len number size.toNat
  refine Mine.pal_pre H1 v1 (by decide) (by decide) (by decide) fun tk1 => ?_
  refine wpAny_execs_cons (Mine.pal_ent (s := { s with heap := h₁, toks := tk1 }) H1 (.head _) hoc (fun p hp => (H1.N p hp).2.1) v2 hs hs2 fun D ps h2 tk2 nw s2 pal off F2 N2 => ?_)
  have hln := pal.len
  rw [hel] at hln
  have H2 : Mine.Here w h₀ L' h2 _ ((D, LCg.lst ps) :: nw) ((L, oL) :: frs) ((envOfC nm (Mine.fnScope 34) L fa cd) :: l) p loose mean mg mb (Mine.fnScope 32) (dp + 1) (un + 3) 8 := ⟨F2, H1.X, N2, H1.T, H1.Fs, fun p hp => .tail _ (s2 p (H1.sub p hp)), H1.k, H1.d, H1.u⟩
  have w1 : (fun y : PySem.Str => if y = "entries" then some (Value.ref D) else m' y) "form" = some (.int 5 t1) := (if_neg (by decide)).trans v1
  have w2 : (fun y : PySem.Str => if y = "entries" then some (Value.ref D) else m' y) "size" = some (.int size t2) := (if_neg (by decide)).trans v2
  have w3 : (fun y : PySem.Str => if y = "entries" then some (Value.ref D) else m' y) "entries" = some (.ref D) := if_pos rfl
  refine Mine.pal_t5 (s := { s with heap := h2, toks := tk2 }) H2 (.tail _ (s2 _ (.head _))) hoc w2 w1 w3 (k := ps.length) (.head _) (pal.mono fun p hp => .tail _ hp) (by omega) hs hs2 hn hn2 fun l2 h4 tk4 nw4 m4 s4 pl4 F4 N4 => ?_
  show Mine.LeaveM (Q (.ref l2) _)
  obtain ⟨F5, N5, off5⟩ := Mine.leave_any C F4 N4 (s4 _ (.tail _ (s2 _ (.tail _ (.head _)))))
  obtain ⟨ps4, n4, hl4, pa4⟩ := pl4
  have ln4 := pa4.len
  refine hret l2 ps4 n4 _ h4 tk4 _ (fun p hp => ?_) (off5 _ _ hl4 ⟨_, _, rfl⟩) (pa4.off fun a o ha hs => off5 a o ha hs) ?_ (fun e he => (by rcases List.mem_append.mp he with he | he; exact h3 e he; (rw [List.mem_singleton] at he; subst he; first | decide | (split <;> exact Nat.le_of_ble_eq_true rfl)))) ⟨fun h => absurd h (Mine.bad_last k1 k2 (Mine.bad_5 hn)), fun h => absurd h (by decide)⟩ F5 N5
  · exact List.mem_filter.mpr ⟨s4 _ (.tail _ (s2 _ (.tail _ (.tail _ hp)))), by simpa using hne p hp⟩
  · rw [ln4]
    first | (simp only [List.length_append, List.length_map, List.length_take, List.length_drop, hel, List.length_cons, List.length_nil]; omega) | (rw [hel]; omega)
theorem Mine.law_pal_6
  {dp un : Nat} {nm : Str} {fa : Addr} {cd : Value} {l : List Env} {h₀ : Heap} {L : Addr} {m : Str → Option Value} {news frs : Mine.Led} {s : Shared} {Q E : Value → Shared → Prop} {size number : Int} {t1 t2 t3 : Tok} (H : Mine.Here w h₀ L s.heap m news frs l p loose mean mg mb (Mine.fnScope 34) dp un 10)
  (hs : 1 ≤ size) (hs2 : size ≤ 256) (hn : 0 ≤ number) (hn2 : number ≤ 70000) (hret : ∀ l2 ps n es h' tk' nw, (∀ p ∈ news, p ∈ nw) → (l2, W.listOf ps.toArray n) ∈ nw → Mine.PalAre nw ps es → ps.length ≤ 300 → (∀ e ∈ es, e.length ≤ 8) → (Mine.PalGood es ↔ 6 ≤ 3) → Fr h₀ L h' m → News h₀ L h' nw → Q (.ref l2) { s with heap := h', toks := tk' }) :
  wpAny (model rw_ar0036_02.row.prog w) ((Mine.Fa dp un (some []) l).deeper (envOfC nm (Mine.fnScope 34) L fa cd)) (call (.ref 421) [.int 6 t1, .int size t2, .int number t3]) Q E s := by
  refine Mine.pal_enter H fun oL L' h₁ tk m' oc C hne v1 v2 hoc H1 => ?_
  rw [Mine.fnStmts32]
  have k1 : 1 ≤ size.toNat := by omega
  have k2 : size.toNat ≤ 256 := by omega
  have h33 : ∀ e ∈ Mine.ents number size.toNat, e.length = 3 := fun e he => (Mine.ents_trip k2 e he).1
  have h3 : ∀ e ∈ Mine.ents number size.toNat, e.length ≤ 8 := fun e he => by rw [h33 e he]; decide
  have hel := Mine.ents_len number size.toNat
  refine Mine.pal_pre H1 v1 (by decide) (by decide) (by decide) fun tk1 => ?_
  refine wpAny_execs_cons (Mine.pal_ent (s := { s with heap := h₁, toks := tk1 }) H1 (.head _) hoc (fun p hp => (H1.N p hp).2.1) v2 hs hs2 fun D ps h2 tk2 nw s2 pal off F2 N2 => ?_)
  have hln := pal.len
  rw [hel] at hln
  have H2 : Mine.Here w h₀ L' h2 _ ((D, LCg.lst ps) :: nw) ((L, oL) :: frs) ((envOfC nm (Mine.fnScope 34) L fa cd) :: l) p loose mean mg mb (Mine.fnScope 32) (dp + 1) (un + 3) 8 := ⟨F2, H1.X, N2, H1.T, H1.Fs, fun p hp => .tail _ (s2 p (H1.sub p hp)), H1.k, H1.d, H1.u⟩
  have w1 : (fun y : PySem.Str => if y = "entries" then some (Value.ref D) else m' y) "form" = some (.int 6 t1) := (if_neg (by decide)).trans v1
  have w2 : (fun y : PySem.Str => if y = "entries" then some (Value.ref D) else m' y) "size" = some (.int size t2) := (if_neg (by decide)).trans v2
  have w3 : (fun y : PySem.Str => if y = "entries" then some (Value.ref D) else m' y) "entries" = some (.ref D) := if_pos rfl
  refine Mine.pal_t6 (s := { s with heap := h2, toks := tk2 }) H2 (.tail _ (s2 _ (.head _))) hoc w2 w1 w3 (k := ps.length) (.head _) (pal.mono fun p hp => .tail _ hp) (by omega) hs hs2 hn hn2 fun l2 h4 tk4 nw4 m4 s4 pl4 F4 N4 => ?_
  show Mine.LeaveM (Q (.ref l2) _)
  obtain ⟨F5, N5, off5⟩ := Mine.leave_any C F4 N4 (s4 _ (.tail _ (s2 _ (.tail _ (.head _)))))
  obtain ⟨ps4, n4, hl4, pa4⟩ := pl4
  have ln4 := pa4.len
  refine hret l2 ps4 n4 _ h4 tk4 _ (fun p hp => ?_) (off5 _ _ hl4 ⟨_, _, rfl⟩) (pa4.off fun a o ha hs => off5 a o ha hs) ?_ (fun e he => (by rcases List.mem_append.mp he with he | he; exact h3 e he; (rw [List.mem_singleton] at he; subst he; first | decide | (split <;> exact Nat.le_of_ble_eq_true rfl)))) ⟨fun h => absurd h (Mine.bad_last k1 k2 Mine.bad_6), fun h => absurd h (by decide)⟩ F5 N5
  · exact List.mem_filter.mpr ⟨s4 _ (.tail _ (s2 _ (.tail _ (.tail _ hp)))), by simpa using hne p hp⟩
  · rw [ln4]
    first | (simp only [List.length_append, List.length_map, List.length_take, List.length_drop, hel, List.length_cons, List.length_nil]; omega) | (rw [hel]; omega)
end
section
variable {w : World} {p : Program} {loose : List Str} {mean : ExcName → Option Value} {mg mb : Str → Option Value}
variable {dp un : Nat} {nm : Str} {fa : Addr} {cd : Value} {l : List Env} {h₀ : Heap} {L : Addr} {m : Str → Option Value} {news frs : Mine.Led} {s : Shared} {Q : Flow → Shared → Prop} {R : Result → Shared → Prop}
local macro_rules | `(tactic| walk_at $s:str) => Mine.hand "i80 " s
theorem Mine.k35 : True := by
 k_with "i80 binaryOp Pow int int" => ((k_here; (with_reducible show wpAny _ _ (binaryOp _ _ (Value.int 32 _)) _ _ _); k_dflt (refine' Mine.pow32 ?hB ?_; (case hB => assumption))))
 k_with "i80 binaryOp Pow int int" => ((k_here; (with_reducible show wpAny _ _ (binaryOp _ _ (Value.int 31 _)) _ _ _); k_dflt (refine' Mine.pow31 ?hB ?_; (case hB => assumption))))
 k_with "i80 eval ListComp" => ((k_here; lct_look; k_dflt (refine LCt.ListComp_T (F₀ := by k_asm) (by with_unfolding_all rfl) (by decide) (by rfl) (by decide) (by rfl) ?_)))
 k_with "i80 call builtin:min" => ((k_here; (with_reducible show wpAny _ _ (call (Value.builtin _) [Value.ref _]) _ _ _); k_dflt (refine' Mine.min_lst ?h ?F ?N ?m ?i ?n ?_; (case F => k_asm); (case N => k_asm); (case h => rfl); (case m => walk_at "mine mem"); (case i => assumption); (case n => first | assumption | exact Mine.f5_pos hq2)); intro h' M' t' tk' F' N' a' b'; have emin' := Mine.ex_min a' b'))
 k_with "i80 call builtin:max" => ((k_here; (with_reducible show wpAny _ _ (call (Value.builtin _) [Value.ref _]) _ _ _); k_dflt (refine' Mine.max_lst ?h ?F ?N ?m ?i ?n ?_; (case F => k_asm); (case N => k_asm); (case h => rfl); (case m => walk_at "mine mem"); (case i => assumption); (case n => first | assumption | exact Mine.f5_pos hq2)); intro h' M' t' tk' F' N' a' b'; have emax' := Mine.ex_max a' b'))
 k_with "i80 subscriptTail" => ((k_here; (with_reducible show wpAny _ _ (subscriptTail _ _ (Value.ref _) (Value.int _ _)) _ _ _); k_dflt (refine' Mine.item_lst ?N ?m ?y0 ?y1 ?x ?_ ?hs; (case N => k_asm); (case m => walk_at "mine mem"); (case y0 => decide); (case y1 => decide); (case x => rfl); (case hs => with_unfolding_all rfl); k_whole)))
 trivial
local macro_rules | `(tactic| k_mem) => `(tactic| walk_at "mine mem")
theorem Mine.law_s26l
 {oc2 oc3 : Obj} {v3 : Option Value} {D : Addr} {its : List Value} {qs : List Int} {k : Nat} {q : Int} {uq : Tok} {lp : Addr}  (H : Mine.Here w h₀ L s.heap m ((L + 1 + 1 + 1, oc3) :: news) frs l p loose mean mg mb (Mine.fnScope 34) dp un 40)
 (hoc3 : oc3.data = .cell v3) (hc2 : (L + 1 + 1, oc2) ∈ news) (hoc2 : oc2.data = .cell (some (.ref D))) (hnx3 : ∀ p ∈ news, p.1 ≠ L + 1 + 1 + 1) (hD : (D, W.listOf [Value.int q uq].toArray k) ∈ news) (v1 : m "palette" = some (.ref lp)) (hret : ∀ oc4 f t h' tk' nw, f = q → oc4.data = .cell (some (.int f t)) → (∀ p ∈ news, p ∈ nw) → (∀ p ∈ nw, p.1 ≠ L + 1 + 1 + 1) → Fr h₀ L h' m → News h₀ L h' ((L + 1 + 1 + 1, oc4) :: nw) → Q .next { s with heap := h', toks := tk' }) :
 wpAny (model rw_ar0036_02.row.prog w) ((Mine.Fa dp un (some []) l).deeper (envOfC nm (Mine.fnScope 34) L fa cd)) (exec (Mine.fnAt 34 26) (envOfC nm (Mine.fnScope 34) L fa cd)) Q (Mine.Out w ((Mine.Fa dp un (some []) l).deeper (envOfC nm (Mine.fnScope 34) L fa cd)) (envOfC nm (Mine.fnScope 34) L fa cd) R) s := by
 obtain ⟨F, X, N, T, Fs, sub, hk, hdp, hun⟩ := H
 (conv => arg 3; arg 1; whnf)
 walk_at "mine lit"
 w_on
 w_strict (
  revert X
  k_fill
  intro X
  
  k_steps)
 all_goals first | exact (Str.ofString "") | exact (0 : Nat) | exact Value.none | skip
 all_goals first | exact hq _ _ (by assumption) (by assumption) | (refine' hret _ _ _ _ _ news ?y1 ?y2 ?y3 ?y4 ?F ?N; (case F => assumption); (case N => first | assumption | (rename News _ _ _ _ => n9; intro p hp; refine n9 p ?_; rcases List.mem_cons.mp hp with rfl | hp <;> walk_at "mine mem")); (case y2 => assumption); (case y1 => rfl); (case y3 => exact fun _ h => h); (case y4 => assumption)) | (exfalso; omega) | (fail "left")
theorem Mine.k36 : True := by
 k_with "i80 CompSrcT" => ((k_here; k_dflt (refine LCt.CompSrcT.ledger (by rfl) (by k_asm) (by k_asm) (by walk_at "mine mem") ?zs3 ?_); (case zs3 => exact Nat.le_of_ble_eq_true rfl); intro g'; refine' Mine.filt (ns := [1, 2, 4, 8, 16]) (fun v => decide (q ≤ v)) ?zf1 ?zf2 ?zf3 ?zf4 ?zf5 ?zf6; (case zf1 => rfl); (case zf2 => exact Mine.arr_at (.cons _ _ (.cons _ _ (.cons _ _ (.cons _ _ (.cons _ _ .nil)))))); (case zf3 => exact .inr ⟨_, by walk_at "mine mem", rfl, _, rfl⟩); (case zf5 => (intro v I oI C oC D9 ys m₂ h tk E' Q' hC hx F N hq; refine LCgL.ld_own N (.tail _ (.head _)) hC hx ?_; exact hq)); (case' zf4 => (intro k9 t9 I oI C oC D9 ys m₂ h tk E' Q' hk9 hC hx F N hq)); (case' zf6 => (intro ys i9; (unfold LCg.FinE); intro D' h' tk' F' N' o1'; (try simp only [LCg.Off1, and_true] at o1')))))
 trivial
theorem Mine.law_s26g
 {oc2 oc3 : Obj} {v3 : Option Value} {D : Addr} {its : List Value} {qs : List Int} {k : Nat} {q : Int} {uq : Tok} {t1 : Tok}  (H : Mine.Here w h₀ L s.heap m ((L + 1 + 1 + 1, oc3) :: news) frs l p loose mean mg mb (Mine.fnScope 34) dp un 40)
 (hoc3 : oc3.data = .cell v3) (hc2 : (L + 1 + 1, oc2) ∈ news) (hoc2 : oc2.data = .cell (some (.ref D))) (hnx3 : ∀ p ∈ news, p.1 ≠ L + 1 + 1 + 1) (hD : (D, W.listOf [Value.int q uq].toArray k) ∈ news) (hq1 : 1 ≤ q) (hq2 : q ≤ 16) (v0 : m "palette" = some .none) (v1 : m "planes" = some (.int 1 t1)) (hret : ∀ oc4 f t h' tk' nw, (f ∈ [1, 2, 4, 8, 16].filter fun v => decide (q ≤ v)) ∧ (∀ a ∈ [1, 2, 4, 8, 16].filter fun v => decide (q ≤ v), f ≤ a) → oc4.data = .cell (some (.int f t)) → (∀ p ∈ news, p ∈ nw) → (∀ p ∈ nw, p.1 ≠ L + 1 + 1 + 1) → Fr h₀ L h' m → News h₀ L h' ((L + 1 + 1 + 1, oc4) :: nw) → Q .next { s with heap := h', toks := tk' }) :
 wpAny (model rw_ar0036_02.row.prog w) ((Mine.Fa dp un (some []) l).deeper (envOfC nm (Mine.fnScope 34) L fa cd)) (exec (Mine.fnAt 34 26) (envOfC nm (Mine.fnScope 34) L fa cd)) Q (Mine.Out w ((Mine.Fa dp un (some []) l).deeper (envOfC nm (Mine.fnScope 34) L fa cd)) (envOfC nm (Mine.fnScope 34) L fa cd) R) s := by
 obtain ⟨F, X, N, T, Fs, sub, hk, hdp, hun⟩ := H
 (conv => arg 3; arg 1; whnf)
 walk_at "mine lit"
 w_on
 w_strict (
  revert X
  k_fill
  intro X
  
  k_steps)
 all_goals first | exact (Str.ofString "") | exact (0 : Nat) | exact Value.none | skip
 all_goals first | exact hq _ _ (by assumption) (by assumption) | (refine' hret _ _ _ _ _ news ?y1 ?y2 ?y3 ?y4 ?F ?N; (case F => assumption); (case N => first | assumption | (rename News _ _ _ _ => n9; intro p hp; refine n9 p ?_; rcases List.mem_cons.mp hp with rfl | hp <;> walk_at "mine mem")); (case y2 => assumption); (case y1 => exact ⟨a', b'⟩); (case y3 => exact fun _ h => h); (case y4 => assumption)) | (exfalso; omega) | (fail "left")
theorem Mine.law_s26c
 {oc2 oc3 : Obj} {v3 : Option Value} {D : Addr} {its : List Value} {qs : List Int} {k : Nat} {q : Int} {uq : Tok} {pl : Int} {t1 : Tok}  (H : Mine.Here w h₀ L s.heap m ((L + 1 + 1 + 1, oc3) :: news) frs l p loose mean mg mb (Mine.fnScope 34) dp un 40)
 (hoc3 : oc3.data = .cell v3) (hc2 : (L + 1 + 1, oc2) ∈ news) (hoc2 : oc2.data = .cell (some (.ref D))) (hnx3 : ∀ p ∈ news, p.1 ≠ L + 1 + 1 + 1) (hD : (D, W.listOf its.toArray k) ∈ news) (hdi : IntsAre its qs) (hil : its.length ≤ 4) (hq0 : 0 < qs.length) (v0 : m "palette" = some .none) (v1 : m "planes" = some (.int pl t1)) (hp : pl ≠ 1) (hret : ∀ oc4 f t h' tk' nw, f = (if ∃ q ∈ qs, 8 < q then 16 else 8) → oc4.data = .cell (some (.int f t)) → (∀ p ∈ news, p ∈ nw) → (∀ p ∈ nw, p.1 ≠ L + 1 + 1 + 1) → Fr h₀ L h' m → News h₀ L h' ((L + 1 + 1 + 1, oc4) :: nw) → Q .next { s with heap := h', toks := tk' }) :
 wpAny (model rw_ar0036_02.row.prog w) ((Mine.Fa dp un (some []) l).deeper (envOfC nm (Mine.fnScope 34) L fa cd)) (exec (Mine.fnAt 34 26) (envOfC nm (Mine.fnScope 34) L fa cd)) Q (Mine.Out w ((Mine.Fa dp un (some []) l).deeper (envOfC nm (Mine.fnScope 34) L fa cd)) (envOfC nm (Mine.fnScope 34) L fa cd) R) s := by
 obtain ⟨F, X, N, T, Fs, sub, hk, hdp, hun⟩ := H
 (conv => arg 3; arg 1; whnf)
 walk_at "mine lit"
 w_on
 w_strict (
  revert X
  k_fill
  intro X
  
  k_steps)
 all_goals first | exact (Str.ofString "") | exact (0 : Nat) | exact Value.none | skip
 all_goals first | exact hq _ _ (by assumption) (by assumption) | (refine' hret _ _ _ _ _ news ?y1 ?y2 ?y3 ?y4 ?F ?N; (case F => assumption); (case N => first | assumption | (rename News _ _ _ _ => n9; intro p hp; refine n9 p ?_; rcases List.mem_cons.mp hp with rfl | hp <;> walk_at "mine mem")); (case y2 => assumption); (case y1 => first | exact (if_pos ((emax' 8).mpr (by omega))).symm | exact (if_neg (fun h => absurd ((emax' 8).mp h) (by omega))).symm); (case y3 => exact fun _ h => h); (case y4 => assumption)) | (exfalso; omega) | (fail "left")
end
section
namespace Mine
def Stay (nw nw' : Led) : Prop := ∀ a o, (a, o) ∈ nw → (∀ v, o.data ≠ .cell v) → (a, o) ∈ nw'
theorem ColIs.stay {nw nw' : Led} (h : Stay nw nw') {v : Value} {c : Col} : ColIs nw v c → ColIs nw' v c
  | .no => .no
  | .num n t => .num n t
  | .tup a b => .tup (h _ _ a (by intro v e; cases e)) b
theorem PalAre.stay {nw nw' : Led} (h : Stay nw nw') {vs : List Value} {es : List (List Int)} (x : PalAre nw vs es) : PalAre nw' vs es := x.off fun a o ha ⟨_, _, e⟩ => h a o ha (by intro v q; rw [e] at q; cases q)
theorem Made.stay {w : World} {nw nw' : Led} (h : Stay nw nw') {x : Addr} {X Y lc : Int} {g al cm : Bool} {qs : List Int} {tg pl cp : Int} {tc bc : Col} {vp : Value} : Made w nw x X Y lc g al cm qs tg pl cp tc bc vp → Made w nw' x X Y lc g al cm qs tg pl cp tc bc vp
  | ⟨rr, vt, vb, ux, uy, ut, uc, u1, u2, a, b, c, d, es, n, e, f, k⟩ => ⟨rr, vt, vb, ux, uy, ut, uc, u1, u2, a.off fun y o ha ⟨_, _, e⟩ => h y o ha (by intro v q; rw [e] at q; cases q), b.stay h, c.stay h, d, es, n, h _ _ e (by intro v q; cases q), h _ _ f (by intro v q; cases q), k⟩
theorem cellOut {h₀ h : Heap} {L c : Addr} {o : Obj} {v : Option Value} {nw : Led} (N : News h₀ L h nw) (hm : (c, o) ∈ nw) (ho : o.data = .cell v) :
    ∃ nw2, News h₀ L h ((c, o) :: nw2) ∧ (∀ p ∈ nw2, p.1 ≠ c) ∧ Stay nw nw2 ∧ ∀ p ∈ nw, p.1 ≠ c → p ∈ nw2 := by
  refine ⟨nw.filter fun p => p.1 != c, fun p hp => ?_, fun p hp => ?_, fun a o' ha hs => ?_, fun p hp hne => ?_⟩
  · rcases List.mem_cons.mp hp with rfl | hp
    · exact N _ hm
    · exact N _ (List.mem_filter.mp hp).1
  · simpa using (List.mem_filter.mp hp).2
  · refine List.mem_filter.mpr ⟨ha, ?_⟩
    simp only [bne_iff_ne, ne_eq]
    rintro rfl
    have e1 := (N _ ha).1
    have e2 := (N _ hm).1
    rw [e1] at e2
    cases e2
    exact hs _ ho
  · exact List.mem_filter.mpr ⟨hp, by simpa using hne⟩
section
variable {w : World} {p : Program} {loose : List Str} {mean : ExcName → Option Value} {mg mb : Str → Option Value} {dp un : Nat} {nm : Str} {fa : Addr} {cd : Value} {h₀ : Heap} {L : Addr} {m : Str → Option Value} {news : Led} {s : Shared} {Q : Flow → Shared → Prop} {R : Result → Shared → Prop} {rest : List Stmt}
theorem law_2_n {x : Addr} {X Y lc pl : Int} {g al : Bool} {qs : List Int} {kc bc : Col} {cl gr : Int} {t2 t3 t4 t5 t6 t7 : Tok} {vk vk2 : Value} {oc3 : Obj} {c3 : Option Value} {oc2 : Obj} {D : Addr} {its : List Value} {k : Nat} (H : Here w h₀ L s.heap m news [] [] p loose mean mg mb (fnScope 34) dp un 40) (Md : Made w news x X Y lc g al false qs (fileN g al qs) pl (if g then 1 else 3) kc bc .none) (v0 : m "refused" = some (.bool false)) (v1 : m "writer" = some (.ref x)) (v2 : m "wide" = some (.int X t2)) (v3 : m "high" = some (.int Y t3)) (hc3 : (L + 1 + 1 + 1, oc3) ∈ news) (e3 : oc3.data = .cell c3) (w3 : m "alpha" = some (.bool al)) (w5 : m "planes" = some (.int pl t4)) (w6 : m "lace" = some (.int lc t5)) (w7 : m "clear" = some (.int cl t6)) (w8 : m "ground" = some (.int gr t7)) (w9 : m "key" = some vk) (wa : m "back" = some vk2) (hkc : ColIs news vk kc) (hbc : ColIs news vk2 bc) (w2 : m "grey" = some (.bool g)) (w4 : m "palette" = some .none) (hks : (∃ n, kc = .num n) ↔ cl = 5 ∧ g = true) (hbs : (∃ n, bc = .num n) ↔ gr = 5 ∧ g = true) (hc2 : (L + 1 + 1, oc2) ∈ news) (hoc2 : oc2.data = .cell (some (.ref D))) (hD : (D, W.listOf its.toArray k) ∈ news) (hdi : IntsAre its qs) (hil : its.length ≤ 4) (hq0 : 0 < qs.length) (hq : ∀ q ∈ qs, 1 ≤ q ∧ q ≤ 16) (hqs : (qs.length : Int) = pl) (hpl : pl = (if g then 1 else 3) + (if al then 1 else 0)) (ret : ∀ m' h' tk', Fr h₀ L h' m' → Q (.ret (.bool true)) { s with heap := h', toks := tk' }) :
    wpAny (model rw_ar0036_02.row.prog w) ((Fa dp un (some []) []).deeper (envOfC nm (fnScope 34) L fa cd)) (execs [fnAt 34 25, fnAt 34 26, fnAt 34 27, fnAt 34 28, fnAt 34 29, fnAt 34 30, fnAt 34 31, fnAt 34 32] (envOfC nm (fnScope 34) L fa cd)) Q (Out w ((Fa dp un (some []) []).deeper (envOfC nm (fnScope 34) L fa cd)) (envOfC nm (fnScope 34) L fa cd) R) s := by
  refine wpAny_execs_cons (law_s25 H v0 fun h1 tk1 F1 N1 => ?_)
  obtain ⟨nw2, N2, ne2, st2, sb2⟩ := cellOut N1 hc3 e3
  have H2 := H.next F1 N2 (fun _ h => nomatch h)
  have hc2' := sb2 _ hc2 (by show ¬ (_ : Nat) = _; omega)
  have hD' := st2 _ _ hD (by intro v e; cases e)
  have fin9 : ∀ oc4 f t h3 tk3 nw3, f = fileN g al qs → oc4.data = .cell (some (.int f t)) → (∀ p ∈ nw2, p ∈ nw3) → Fr h₀ L h3 m → News h₀ L h3 ((L + 1 + 1 + 1, oc4) :: nw3) → wpAny (model rw_ar0036_02.row.prog w) ((Fa dp un (some []) []).deeper (envOfC nm (fnScope 34) L fa cd)) (execs [fnAt 34 27, fnAt 34 28, fnAt 34 29, fnAt 34 30, fnAt 34 31, fnAt 34 32] (envOfC nm (fnScope 34) L fa cd)) Q (Out w ((Fa dp un (some []) []).deeper (envOfC nm (fnScope 34) L fa cd)) (envOfC nm (fnScope 34) L fa cd) R) { s with heap := h3, toks := tk3 } := by
    intro oc4 f t h3 tk3 nw3 ef d4 sb3 F3 N3
    have sty : Stay news ((L + 1 + 1 + 1, oc4) :: nw3) := fun a o ha hs => .tail _ (sb3 _ (st2 a o ha hs))
    subst ef
    exact law_tail_n (tf := t) (s := { s with heap := h3, toks := tk3 }) (H2.next F3 N3 (fun _ h => nomatch h)) (Md.stay sty) v1 v2 v3 (.head _) d4 w3 w5 w6 w7 w8 w9 wa (hkc.stay sty) (hbc.stay sty) w2 w4 hks hbs (.tail _ (sb3 _ hc2')) hoc2 (.tail _ (sb3 _ hD')) hdi hil ret
  by_cases hp1 : pl = 1
  · have hga : g = true ∧ al = false := by
      rw [hp1] at hpl
      cases g <;> cases al <;> first | exact ⟨rfl, rfl⟩ | (exfalso; revert hpl; decide)
    obtain ⟨rfl, rfl⟩ := hga
    obtain ⟨q, uq, its', qs', rfl, rfl, hr⟩ := ints_one hdi hq0
    have hq1 : qs' = [] := by
      have h9 := hqs
      rw [hp1, List.length_cons] at h9
      exact List.length_eq_zero_iff.mp (by omega)
    subst hq1
    cases hr
    subst hp1
    have hqq := hq q (.head _)
    exact wpAny_execs_cons (law_s26g (its := []) (qs := []) (s := { s with heap := h1, toks := tk1 }) H2 e3 hc2' hoc2 ne2 hD' hqq.1 hqq.2 w4 w5 fun oc4 f t h3 tk3 nw3 hf d4 sb3 ne3 F3 N3 => fin9 oc4 f t h3 tk3 nw3 (least hqq.1 hqq.2 hf.1 hf.2) d4 sb3 F3 N3)
  · have hga : ¬ (g = true ∧ al = false) := fun h => hp1 (by rw [hpl, h.1, h.2]; rfl)
    exact wpAny_execs_cons (law_s26c (q := 0) (uq := 0) (s := { s with heap := h1, toks := tk1 }) H2 e3 hc2' hoc2 ne2 hD' hdi hil hq0 w4 w5 hp1 fun oc4 f t h3 tk3 nw3 hf d4 sb3 ne3 F3 N3 => fin9 oc4 f t h3 tk3 nw3 (hf.trans (fileN_c hga).symm) d4 sb3 F3 N3)
theorem law_2_l {x : Addr} {X Y lc pl : Int} {kc bc : Col} {cl gr : Int} {t2 t3 t4 t5 t6 t7 : Tok} {vk vk2 : Value} {oc3 : Obj} {q : Int} {uq : Tok} {l2 lp : Addr} {ps : List Value} {k2 np : Nat} {es0 : List (List Int)} {c3 : Option Value} {oc2 : Obj} {D : Addr} {its : List Value} {k : Nat} (H : Here w h₀ L s.heap m news [] [] p loose mean mg mb (fnScope 34) dp un 40) (Md : Made w news x X Y lc false false true [q] q pl 1 kc bc (.ref l2)) (hl2 : (l2, W.listOf ps.toArray k2) ∈ news) (hlp : (lp, W.listOf ps.toArray np) ∈ news) (hpa : PalAre news ps es0) (v0 : m "refused" = some (.bool false)) (v1 : m "writer" = some (.ref x)) (v2 : m "wide" = some (.int X t2)) (v3 : m "high" = some (.int Y t3)) (hc3 : (L + 1 + 1 + 1, oc3) ∈ news) (e3 : oc3.data = .cell c3) (w3 : m "alpha" = some (.bool false)) (w5 : m "planes" = some (.int pl t4)) (w6 : m "lace" = some (.int lc t5)) (w7 : m "clear" = some (.int cl t6)) (w8 : m "ground" = some (.int gr t7)) (w9 : m "key" = some vk) (wa : m "back" = some vk2) (hkc : ColIs news vk kc) (hbc : ColIs news vk2 bc) (w2 : m "grey" = some (.bool false)) (w4 : m "palette" = some (.ref lp)) (hks : (∃ n, kc = .num n) ↔ cl = 5 ∧ false = true) (hbs : (∃ n, bc = .num n) ↔ gr = 5 ∧ false = true) (hc2 : (L + 1 + 1, oc2) ∈ news) (hoc2 : oc2.data = .cell (some (.ref D))) (hD : (D, W.listOf [Value.int q uq].toArray k) ∈ news) (ret : ∀ m' h' tk', Fr h₀ L h' m' → Q (.ret (.bool true)) { s with heap := h', toks := tk' }) :
    wpAny (model rw_ar0036_02.row.prog w) ((Fa dp un (some []) []).deeper (envOfC nm (fnScope 34) L fa cd)) (execs [fnAt 34 25, fnAt 34 26, fnAt 34 27, fnAt 34 28, fnAt 34 29, fnAt 34 30, fnAt 34 31, fnAt 34 32] (envOfC nm (fnScope 34) L fa cd)) Q (Out w ((Fa dp un (some []) []).deeper (envOfC nm (fnScope 34) L fa cd)) (envOfC nm (fnScope 34) L fa cd) R) s := by
  refine wpAny_execs_cons (law_s25 H v0 fun h1 tk1 F1 N1 => ?_)
  obtain ⟨nw2, N2, ne2, st2, sb2⟩ := cellOut N1 hc3 e3
  have H2 := H.next F1 N2 (fun _ h => nomatch h)
  have hc2' := sb2 _ hc2 (by show ¬ (_ : Nat) = _; omega)
  have hD' := st2 _ _ hD (by intro v e; cases e)
  refine wpAny_execs_cons (law_s26l (its := []) (qs := []) (s := { s with heap := h1, toks := tk1 }) H2 e3 hc2' hoc2 ne2 hD' w4 fun oc4 f t h3 tk3 nw3 hf d4 sb3 ne3 F3 N3 => ?_)
  have sty : Stay news ((L + 1 + 1 + 1, oc4) :: nw3) := fun a o ha hs => .tail _ (sb3 _ (st2 a o ha hs))
  subst hf
  exact law_tail_l (tf := t) (s := { s with heap := h3, toks := tk3 }) (H2.next F3 N3 (fun _ h => nomatch h)) (Md.stay sty) (.tail _ (sb3 _ (st2 _ _ hl2 (by intro v e; cases e)))) (.tail _ (sb3 _ (st2 _ _ hlp (by intro v e; cases e)))) (hpa.stay sty) v1 v2 v3 (.head _) d4 w3 w5 w6 w7 w8 w9 wa (hkc.stay sty) (hbc.stay sty) w2 w4 hks hbs (.tail _ (sb3 _ hc2')) hoc2 (.tail _ (sb3 _ hD')) (.cons _ _ .nil) (Nat.le_of_ble_eq_true rfl) ret
end
end Mine
end
section
variable {w : World} {p : Program} {loose : List Str} {mean : ExcName → Option Value} {mg mb : Str → Option Value}
local macro_rules | `(tactic| walk_at $s:str) => Mine.hand "i82 " s
local macro_rules | `(tactic| walk_at "p") => Mine.pad
theorem Mine.k37 : True := by
 k_with "i82 noteFrame ref" => ((k_here; k_dflt (refine' Mine.caughtP (bmB := [Value.type "Exception", Value.type "BaseException", Value.type "object"]) (newId := "Exception.__new__") ?zca ?zcb ?zcc ?zcd ?zce ?zcf ?zcg ?zch ?zci ?_ ?zcj ?zck ?zcl ?zcm; (case zca => exact rfl); (case zcb => exact fl'); (case zcc => exact up'); (case zcd => exact C9'); (case zce => k_asm); (case zcf => k_asm); (case zcg => k_is); (case zch => k_exc); (case zci => decide +kernel); (case zcj => exact rfl); (case zck => exact rfl); (case zcl => decide); (case zcm => passes_own)); intro h' F'))
 k_with "i82 subscriptTail" => ((k_here; (with_reducible show wpAny _ _ (subscriptTail _ _ (Value.ref _) (Value.int _ _)) _ _ _); k_dflt (refine' Mine.item_lst ?N ?m ?y0 ?y1 ?x ?_ ?hs; (case N => k_asm); (case m => walk_at "mine mem"); (case y0 => decide); (case y1 => decide); (case x => rfl); (case hs => with_unfolding_all rfl); k_whole)))
 k_with "i82 call type:tuple" => ((k_here; (with_reducible show wpAny _ _ (call (Value.type _) [Value.ref _]) _ _ _); k_dflt (refine' Mine.tup_lst ?ztF ?ztN ?ztm ?ztl ?_; (case ztF => k_asm); (case ztN => k_asm); (case ztm => walk_at "mine mem"); (case ztl => first | omega | exact Nat.le_of_ble_eq_true rfl); k_whole); intro D' h' F' N' l1; (try k_lt l1)))
 k_with "i82 call ref" => ((k_here; (with_reducible show wpAny _ _ (call (Value.ref 359) _ _) _ _ _); k_dflt (refine' Mine.wcall_nD ?zwF ?zwX ?zwN ?zwT ?zwFs ?zwhf ?zwhk ?zwhd ?zwhu ?zwhz ?zwb1 ?zwb2 ?zwb3 ?zwb4 ?zwhg ?zwhp ?zwhn ?zwh6 ?zwhb ?zwhtc ?zwhbc ?zwhft ?zwhfb ?zwhql ?zwret ?zwrai; (case zwF => k_asm); (case zwX => k_asm); (case zwN => k_asm); (case zwT => k_asm); (case zwFs => assumption); (case zwhf => exact rfl); (case zwhk => exact rfl); (case zwhd => ktr_room); (case zwhu => ktr_units); (case zwhz => (intro m9 a9 b9 c9; exact Mine.SizeIn.mono (fun p hp => by walk_at "mine mem") (hz m9 a9 b9 c9))); (case zwb1 => assumption); (case zwb2 => assumption); (case zwb3 => assumption); (case zwb4 => assumption); (case zwhg => first | exact .D | exact .b _); (case zwhp => first | exact .one _ _ | exact .tup (by walk_at "mine mem") hdi | exact .tup (by walk_at "mine mem") (.cons _ _ .nil)); (case zwhn => first | assumption | exact List.cons_ne_nil _ _); (case zwh6 => first | assumption | exact Nat.le_of_ble_eq_true rfl); (case zwhb => first | assumption | (intro n9 h9; rw [List.mem_singleton] at h9; subst h9; first | assumption | exact hqb _ (.head _))); (case zwhtc => exact htc.mono (fun p hp => by walk_at "mine mem")); (case zwhbc => exact hbc.mono (fun p hp => by walk_at "mine mem")); (case zwhft => assumption); (case zwhfb => assumption); (case zwhql => first | assumption | exact .inl rfl)); (case' zwret => intro good' x' h' tk' nw' qs' sp' ob' md' F' N'); (case' zwrai => intro bad' e' a0' h' tk' oL' C9' fl' up')))
 k_with "i82 eval Subscript" => ((k_here; (with_reducible show wpAny _ _ (eval (Expr.Subscript (Expr.Name (Str.ofString "depths") _) _ _) _) _ _ _); exfalso; omega))
 trivial
theorem Mine.law_s24DnA
 {dp un : Nat} {nm : Str} {fa : Addr} {cd : Value} {l : List Env} {h₀ : Heap} {L : Addr} {m : Str → Option Value} {news : Mine.Led} {s : Shared} {Q : Flow → Shared → Prop} {R : Result → Shared → Prop}
 {X Y lc : Int} {ok : Prop} {wd D : Addr} {v1 v2 vsz vk vb : Value} {al rf : Bool} {tc bc : Mine.Col} {its : List Value} {qs : List Int} {k : Nat} {oc oc2 : Obj} {dv sd q0 : Int} {td ul us uq : Tok} {lp : Addr} {ps : List Value} {np : Nat} {es : List (List Int)}  (H : Mine.Here w h₀ L s.heap m news [] l p loose mean mg mb (Mine.fnScope 34) dp un 40)
 (Fs0 : Frs l []) (hc1 : (L + 1, oc) ∈ news) (hoc : oc.data = .cell (some (.int dv td))) (hd5 : dv.fmod 5 = 0) (hc2 : (L + 1 + 1, oc2) ∈ news) (hoc2 : oc2.data = .cell (some (.ref D))) (hwd : (wd, ({ cls := .type "tuple", data := .seq [v1, v2].toArray } : Obj)) ∈ news) (x0 : m "words" = some (.ref wd)) (x1 : m "size" = some vsz) (x2 : m "alpha" = some (.bool al)) (x4 : m "key" = some vk) (x5 : m "back" = some vb) (x6 : m "lace" = some (.int lc ul)) (x8 : m "refused" = some (.bool rf)) (hz : ∀ m : PySem.Str → Option Value, m "size" = some vsz → m "width" = some v1 → m "height" = some v2 → Mine.SizeIn news m X Y ok) (bx0 : -10000000000 < X) (bx1 : X < 10000000000) (by0 : -10000000000 < Y) (by1 : Y < 10000000000) (htc : Mine.ColIs news vk tc) (hbc : Mine.ColIs news vb bc) (hD : (D, W.listOf its.toArray k) ∈ news) (hdi : IntsAre its qs) (hil : its.length ≤ 4) (hqn : qs ≠ []) (hq6 : qs.length ≤ 6) (hqb : ∀ n ∈ qs, -10000000000 < n ∧ n < 10000000000) (hql : qs.length = 1 ∨ qs.length = (if true then 1 else 3) + (if al then 1 else 0)) (x7 : m "said" = some (.int 0 us)) (x3 : m "palette" = some .none) (hft : Mine.ColForm true tc) (hfb : Mine.ColForm true bc) (hret : ((ok ∧ 0 < X ∧ 0 < Y ∧ X ≤ 2147483647 ∧ Y ≤ 2147483647 ∧ (al = true → tc = .no) ∧ (∀ q ∈ qs, 1 ≤ q ∧ q ≤ 16)) ∧ Mine.ColGood true tc ∧ Mine.ColGood true bc) → ∀ x h' tk' nw qs', Mine.Spread ((if true then 1 else 3) + (if al then 1 else 0)) qs qs' → (∀ p ∈ news, p ∈ nw) → Mine.Made w nw x X Y lc true al false qs' (Mine.fileN true al qs') (((if true then 1 else 3) + (if al then 1 else 0) : Nat) : Int) (if true then 1 else 3) tc bc .none → Fr h₀ L h' (fun y => if y = "writer" then some (.ref x) else m y) → News h₀ L h' nw → Q .next { s with heap := h', toks := tk' }) (hexc : ¬ ((ok ∧ 0 < X ∧ 0 < Y ∧ X ≤ 2147483647 ∧ Y ≤ 2147483647 ∧ (al = true → tc = .no) ∧ (∀ q ∈ qs, 1 ≤ q ∧ q ≤ 16)) ∧ Mine.ColGood true tc ∧ Mine.ColGood true bc) → ∀ h' tk', Fr h₀ L h' m → Q (.ret (.bool rf)) { s with heap := h', toks := tk' }) :
 wpAny (model rw_ar0036_02.row.prog w) ((Mine.Fa dp un (some []) l).deeper (envOfC nm (Mine.fnScope 34) L fa cd)) (exec (Mine.fnAt 34 24) (envOfC nm (Mine.fnScope 34) L fa cd)) Q (Mine.Out w ((Mine.Fa dp un (some []) l).deeper (envOfC nm (Mine.fnScope 34) L fa cd)) (envOfC nm (Mine.fnScope 34) L fa cd) R) s := by
 obtain ⟨F, X, N, T, Fs, sub, hk, hdp, hun⟩ := H
 (conv => arg 3; arg 1; whnf)
 walk_at "mine lit"
 w_on
 w_strict (
  revert X
  k_fill
  intro X
  
  k_steps)
 all_goals first | exact (Str.ofString "") | exact (0 : Nat) | exact Value.none | skip
 all_goals ((try dsimp only); first | exact hexc bad' _ _ (by assumption) | exact hret good' _ _ _ _ _ sp' (by first | exact ob' | exact fun p hp => ob' p (.tail _ hp) | exact fun p hp => ob' p (.tail _ (.tail _ hp))) md' (by assumption) (by assumption))
theorem Mine.k38 : True := by
 k_with "i82 call ref" => ((k_here; (with_reducible show wpAny _ _ (call (Value.ref 359) _ _) _ _ _); k_dflt (refine' Mine.wcall_nD ?zwF ?zwX ?zwN ?zwT ?zwFs ?zwhf ?zwhk ?zwhd ?zwhu ?zwhz ?zwb1 ?zwb2 ?zwb3 ?zwb4 ?zwhg ?zwhp ?zwhn ?zwh6 ?zwhb ?zwhtc ?zwhbc ?zwhft ?zwhfb ?zwhql ?zwret ?zwrai; (case zwF => k_asm); (case zwX => k_asm); (case zwN => k_asm); (case zwT => k_asm); (case zwFs => assumption); (case zwhf => exact rfl); (case zwhk => exact rfl); (case zwhd => ktr_room); (case zwhu => ktr_units); (case zwhz => (intro m9 a9 b9 c9; exact Mine.SizeIn.mono (fun p hp => by walk_at "mine mem") (hz m9 a9 b9 c9))); (case zwb1 => assumption); (case zwb2 => assumption); (case zwb3 => assumption); (case zwb4 => assumption); (case zwhg => first | exact .D | exact .b _); (case zwhp => first | exact .one _ _ | exact .tup (by walk_at "mine mem") hdi | exact .tup (by walk_at "mine mem") (.cons _ _ .nil)); (case zwhn => first | assumption | exact List.cons_ne_nil _ _); (case zwh6 => first | assumption | exact Nat.le_of_ble_eq_true rfl); (case zwhb => first | assumption | (intro n9 h9; rw [List.mem_singleton] at h9; subst h9; first | assumption | exact hqb _ (.head _))); (case zwhtc => exact htc.mono (fun p hp => by walk_at "mine mem")); (case zwhbc => exact hbc.mono (fun p hp => by walk_at "mine mem")); (case zwhft => assumption); (case zwhfb => assumption); (case zwhql => first | assumption | exact .inl rfl)); (case' zwret => intro good' x' h' tk' nw' qs' sp' ob' md' F' N'); (case' zwrai => intro bad' e' a0' h' tk' oL' C9' fl' up')))
 k_with "i82 eval Call" => ((k_here; (with_reducible show wpAny _ _ (eval (Expr.Call (Expr.Name (Str.ofString "tuple") _) _ _ _) _) _ _ _); exfalso; omega))
 trivial
theorem Mine.law_s24DnB
 {dp un : Nat} {nm : Str} {fa : Addr} {cd : Value} {l : List Env} {h₀ : Heap} {L : Addr} {m : Str → Option Value} {news : Mine.Led} {s : Shared} {Q : Flow → Shared → Prop} {R : Result → Shared → Prop}
 {X Y lc : Int} {ok : Prop} {wd D : Addr} {v1 v2 vsz vk vb : Value} {al rf : Bool} {tc bc : Mine.Col} {its : List Value} {qs : List Int} {k : Nat} {oc oc2 : Obj} {dv sd q0 : Int} {td ul us uq : Tok} {lp : Addr} {ps : List Value} {np : Nat} {es : List (List Int)}  (H : Mine.Here w h₀ L s.heap m news [] l p loose mean mg mb (Mine.fnScope 34) dp un 40)
 (Fs0 : Frs l []) (hc1 : (L + 1, oc) ∈ news) (hoc : oc.data = .cell (some (.int dv td))) (hd5 : dv.fmod 5 ≠ 0) (hc2 : (L + 1 + 1, oc2) ∈ news) (hoc2 : oc2.data = .cell (some (.ref D))) (hwd : (wd, ({ cls := .type "tuple", data := .seq [v1, v2].toArray } : Obj)) ∈ news) (x0 : m "words" = some (.ref wd)) (x1 : m "size" = some vsz) (x2 : m "alpha" = some (.bool al)) (x4 : m "key" = some vk) (x5 : m "back" = some vb) (x6 : m "lace" = some (.int lc ul)) (x8 : m "refused" = some (.bool rf)) (hz : ∀ m : PySem.Str → Option Value, m "size" = some vsz → m "width" = some v1 → m "height" = some v2 → Mine.SizeIn news m X Y ok) (bx0 : -10000000000 < X) (bx1 : X < 10000000000) (by0 : -10000000000 < Y) (by1 : Y < 10000000000) (htc : Mine.ColIs news vk tc) (hbc : Mine.ColIs news vb bc) (hD : (D, W.listOf (Value.int q0 uq :: its).toArray k) ∈ news) (hqb : -10000000000 < q0 ∧ q0 < 10000000000) (x7 : m "said" = some (.int 0 us)) (x3 : m "palette" = some .none) (hft : Mine.ColForm true tc) (hfb : Mine.ColForm true bc) (hret : ((ok ∧ 0 < X ∧ 0 < Y ∧ X ≤ 2147483647 ∧ Y ≤ 2147483647 ∧ (al = true → tc = .no) ∧ (∀ q ∈ [q0], 1 ≤ q ∧ q ≤ 16)) ∧ Mine.ColGood true tc ∧ Mine.ColGood true bc) → ∀ x h' tk' nw qs', Mine.Spread ((if true then 1 else 3) + (if al then 1 else 0)) [q0] qs' → (∀ p ∈ news, p ∈ nw) → Mine.Made w nw x X Y lc true al false qs' (Mine.fileN true al qs') (((if true then 1 else 3) + (if al then 1 else 0) : Nat) : Int) (if true then 1 else 3) tc bc .none → Fr h₀ L h' (fun y => if y = "writer" then some (.ref x) else m y) → News h₀ L h' nw → Q .next { s with heap := h', toks := tk' }) (hexc : ¬ ((ok ∧ 0 < X ∧ 0 < Y ∧ X ≤ 2147483647 ∧ Y ≤ 2147483647 ∧ (al = true → tc = .no) ∧ (∀ q ∈ [q0], 1 ≤ q ∧ q ≤ 16)) ∧ Mine.ColGood true tc ∧ Mine.ColGood true bc) → ∀ h' tk', Fr h₀ L h' m → Q (.ret (.bool rf)) { s with heap := h', toks := tk' }) :
 wpAny (model rw_ar0036_02.row.prog w) ((Mine.Fa dp un (some []) l).deeper (envOfC nm (Mine.fnScope 34) L fa cd)) (exec (Mine.fnAt 34 24) (envOfC nm (Mine.fnScope 34) L fa cd)) Q (Mine.Out w ((Mine.Fa dp un (some []) l).deeper (envOfC nm (Mine.fnScope 34) L fa cd)) (envOfC nm (Mine.fnScope 34) L fa cd) R) s := by
 obtain ⟨F, X, N, T, Fs, sub, hk, hdp, hun⟩ := H
 (conv => arg 3; arg 1; whnf)
 walk_at "mine lit"
 w_on
 w_strict (
  revert X
  k_fill
  intro X
  
  k_steps)
 all_goals first | exact (Str.ofString "") | exact (0 : Nat) | exact Value.none | skip
 all_goals ((try dsimp only); first | exact hexc bad' _ _ (by assumption) | exact hret good' _ _ _ _ _ sp' (by first | exact ob' | exact fun p hp => ob' p (.tail _ hp) | exact fun p hp => ob' p (.tail _ (.tail _ hp))) md' (by assumption) (by assumption))
theorem Mine.k39 : True := by
 k_with "i82 call ref" => ((k_here; (with_reducible show wpAny _ _ (call (Value.ref 359) _ _) _ _ _); k_dflt (refine' Mine.wcall_lD ?zwF ?zwX ?zwN ?zwT ?zwFs ?zwhf ?zwhk ?zwhd ?zwhu ?zwhz ?zwb1 ?zwb2 ?zwb3 ?zwb4 ?zwhg ?zwhp ?zwhn ?zwh6 ?zwhb ?zwhtc ?zwhbc ?zwhlp ?zwhpa ?zwhpl ?zwhel ?zwhqs ?zwhbn ?zwret ?zwrai; (case zwF => k_asm); (case zwX => k_asm); (case zwN => k_asm); (case zwT => k_asm); (case zwFs => assumption); (case zwhf => exact rfl); (case zwhk => exact rfl); (case zwhd => ktr_room); (case zwhu => ktr_units); (case zwhz => (intro m9 a9 b9 c9; exact Mine.SizeIn.mono (fun p hp => by walk_at "mine mem") (hz m9 a9 b9 c9))); (case zwb1 => assumption); (case zwb2 => assumption); (case zwb3 => assumption); (case zwb4 => assumption); (case zwhg => first | exact .D | exact .b _); (case zwhp => first | exact .one _ _ | exact .tup (by walk_at "mine mem") hdi | exact .tup (by walk_at "mine mem") (.cons _ _ .nil)); (case zwhn => first | assumption | exact List.cons_ne_nil _ _); (case zwh6 => first | assumption | exact Nat.le_of_ble_eq_true rfl); (case zwhb => first | assumption | (intro n9 h9; rw [List.mem_singleton] at h9; subst h9; first | assumption | exact hqb _ (.head _))); (case zwhtc => exact htc.mono (fun p hp => by walk_at "mine mem")); (case zwhbc => exact hbc.mono (fun p hp => by walk_at "mine mem")); (case zwhlp => walk_at "mine mem"); (case zwhpa => exact hpa.mono (fun p hp => by walk_at "mine mem")); (case zwhpl => assumption); (case zwhel => assumption); (case zwhqs => first | exact rfl | assumption); (case zwhbn => assumption)); (case' zwret => intro good' x' h' tk' nw' l2' k' hl2' ob' md' F' N'); (case' zwrai => intro bad' e' a0' h' tk' oL' C9' fl' up')))
 k_with "i82 eval Subscript" => ((k_here; (with_reducible show wpAny _ _ (eval (Expr.Subscript (Expr.Name (Str.ofString "depths") _) _ _) _) _ _ _); exfalso; omega))
 trivial
theorem Mine.law_s24DlA
 {dp un : Nat} {nm : Str} {fa : Addr} {cd : Value} {l : List Env} {h₀ : Heap} {L : Addr} {m : Str → Option Value} {news : Mine.Led} {s : Shared} {Q : Flow → Shared → Prop} {R : Result → Shared → Prop}
 {X Y lc : Int} {ok : Prop} {wd D : Addr} {v1 v2 vsz vk vb : Value} {al rf : Bool} {tc bc : Mine.Col} {its : List Value} {qs : List Int} {k : Nat} {oc oc2 : Obj} {dv sd q0 : Int} {td ul us uq : Tok} {lp : Addr} {ps : List Value} {np : Nat} {es : List (List Int)}  (H : Mine.Here w h₀ L s.heap m news [] l p loose mean mg mb (Mine.fnScope 34) dp un 40)
 (Fs0 : Frs l []) (hc1 : (L + 1, oc) ∈ news) (hoc : oc.data = .cell (some (.int dv td))) (hd5 : dv.fmod 5 = 0) (hc2 : (L + 1 + 1, oc2) ∈ news) (hoc2 : oc2.data = .cell (some (.ref D))) (hwd : (wd, ({ cls := .type "tuple", data := .seq [v1, v2].toArray } : Obj)) ∈ news) (x0 : m "words" = some (.ref wd)) (x1 : m "size" = some vsz) (x2 : m "alpha" = some (.bool al)) (x4 : m "key" = some vk) (x5 : m "back" = some vb) (x6 : m "lace" = some (.int lc ul)) (x8 : m "refused" = some (.bool rf)) (hz : ∀ m : PySem.Str → Option Value, m "size" = some vsz → m "width" = some v1 → m "height" = some v2 → Mine.SizeIn news m X Y ok) (bx0 : -10000000000 < X) (bx1 : X < 10000000000) (by0 : -10000000000 < Y) (by1 : Y < 10000000000) (htc : Mine.ColIs news vk tc) (hbc : Mine.ColIs news vb bc) (hD : (D, W.listOf [Value.int q0 uq].toArray k) ∈ news) (hqb : -10000000000 < q0 ∧ q0 < 10000000000) (x7 : m "said" = some (.int 0 us)) (x3 : m "palette" = some (.ref lp)) (hlp : (lp, W.listOf ps.toArray np) ∈ news) (hpa : Mine.PalAre news ps es) (hpl : ps.length ≤ 300) (hel : ∀ e ∈ es, e.length ≤ 8) (hbn : bc = .no) (hret : ((ok ∧ 0 < X ∧ 0 < Y ∧ X ≤ 2147483647 ∧ Y ≤ 2147483647 ∧ (al = true → tc = .no) ∧ (∀ q ∈ [q0], 1 ≤ q ∧ q ≤ 16)) ∧ Mine.PalGood es ∧ (q0 = 1 ∨ q0 = 2 ∨ q0 = 4 ∨ q0 = 8) ∧ tc = .no ∧ al = false ∧ false = false) → ∀ x h' tk' nw l2 k, (l2, W.listOf ps.toArray k) ∈ nw → (∀ p ∈ news, p ∈ nw) → Mine.Made w nw x X Y lc false al true [q0] q0 1 1 tc bc (.ref l2) → Fr h₀ L h' (fun y => if y = "writer" then some (.ref x) else m y) → News h₀ L h' nw → Q .next { s with heap := h', toks := tk' }) (hexc : ¬ ((ok ∧ 0 < X ∧ 0 < Y ∧ X ≤ 2147483647 ∧ Y ≤ 2147483647 ∧ (al = true → tc = .no) ∧ (∀ q ∈ [q0], 1 ≤ q ∧ q ≤ 16)) ∧ Mine.PalGood es ∧ (q0 = 1 ∨ q0 = 2 ∨ q0 = 4 ∨ q0 = 8) ∧ tc = .no ∧ al = false ∧ false = false) → ∀ h' tk', Fr h₀ L h' m → Q (.ret (.bool rf)) { s with heap := h', toks := tk' }) :
 wpAny (model rw_ar0036_02.row.prog w) ((Mine.Fa dp un (some []) l).deeper (envOfC nm (Mine.fnScope 34) L fa cd)) (exec (Mine.fnAt 34 24) (envOfC nm (Mine.fnScope 34) L fa cd)) Q (Mine.Out w ((Mine.Fa dp un (some []) l).deeper (envOfC nm (Mine.fnScope 34) L fa cd)) (envOfC nm (Mine.fnScope 34) L fa cd) R) s := by
 obtain ⟨F, X, N, T, Fs, sub, hk, hdp, hun⟩ := H
 (conv => arg 3; arg 1; whnf)
 walk_at "mine lit"
 w_on
 w_strict (
  revert X
  k_fill
  intro X
  
  k_steps)
 all_goals first | exact (Str.ofString "") | exact (0 : Nat) | exact Value.none | skip
 all_goals ((try dsimp only); first | exact hexc bad' _ _ (by assumption) | exact hret good' _ _ _ _ _ _ hl2' (by first | exact ob' | exact fun p hp => ob' p (.tail _ hp) | exact fun p hp => ob' p (.tail _ (.tail _ hp))) md' (by assumption) (by assumption))
theorem Mine.k40 : True := by
 k_with "i82 call ref" => ((k_here; (with_reducible show wpAny _ _ (call (Value.ref 359) _ _) _ _ _); k_dflt (refine' Mine.wcall_lD ?zwF ?zwX ?zwN ?zwT ?zwFs ?zwhf ?zwhk ?zwhd ?zwhu ?zwhz ?zwb1 ?zwb2 ?zwb3 ?zwb4 ?zwhg ?zwhp ?zwhn ?zwh6 ?zwhb ?zwhtc ?zwhbc ?zwhlp ?zwhpa ?zwhpl ?zwhel ?zwhqs ?zwhbn ?zwret ?zwrai; (case zwF => k_asm); (case zwX => k_asm); (case zwN => k_asm); (case zwT => k_asm); (case zwFs => assumption); (case zwhf => exact rfl); (case zwhk => exact rfl); (case zwhd => ktr_room); (case zwhu => ktr_units); (case zwhz => (intro m9 a9 b9 c9; exact Mine.SizeIn.mono (fun p hp => by walk_at "mine mem") (hz m9 a9 b9 c9))); (case zwb1 => assumption); (case zwb2 => assumption); (case zwb3 => assumption); (case zwb4 => assumption); (case zwhg => first | exact .D | exact .b _); (case zwhp => first | exact .one _ _ | exact .tup (by walk_at "mine mem") hdi | exact .tup (by walk_at "mine mem") (.cons _ _ .nil)); (case zwhn => first | assumption | exact List.cons_ne_nil _ _); (case zwh6 => first | assumption | exact Nat.le_of_ble_eq_true rfl); (case zwhb => first | assumption | (intro n9 h9; rw [List.mem_singleton] at h9; subst h9; first | assumption | exact hqb _ (.head _))); (case zwhtc => exact htc.mono (fun p hp => by walk_at "mine mem")); (case zwhbc => exact hbc.mono (fun p hp => by walk_at "mine mem")); (case zwhlp => walk_at "mine mem"); (case zwhpa => exact hpa.mono (fun p hp => by walk_at "mine mem")); (case zwhpl => assumption); (case zwhel => assumption); (case zwhqs => first | exact rfl | assumption); (case zwhbn => assumption)); (case' zwret => intro good' x' h' tk' nw' l2' k' hl2' ob' md' F' N'); (case' zwrai => intro bad' e' a0' h' tk' oL' C9' fl' up')))
 k_with "i82 eval Call" => ((k_here; (with_reducible show wpAny _ _ (eval (Expr.Call (Expr.Name (Str.ofString "tuple") _) _ _ _) _) _ _ _); exfalso; omega))
 trivial
theorem Mine.law_s24DlB
 {dp un : Nat} {nm : Str} {fa : Addr} {cd : Value} {l : List Env} {h₀ : Heap} {L : Addr} {m : Str → Option Value} {news : Mine.Led} {s : Shared} {Q : Flow → Shared → Prop} {R : Result → Shared → Prop}
 {X Y lc : Int} {ok : Prop} {wd D : Addr} {v1 v2 vsz vk vb : Value} {al rf : Bool} {tc bc : Mine.Col} {its : List Value} {qs : List Int} {k : Nat} {oc oc2 : Obj} {dv sd q0 : Int} {td ul us uq : Tok} {lp : Addr} {ps : List Value} {np : Nat} {es : List (List Int)}  (H : Mine.Here w h₀ L s.heap m news [] l p loose mean mg mb (Mine.fnScope 34) dp un 40)
 (Fs0 : Frs l []) (hc1 : (L + 1, oc) ∈ news) (hoc : oc.data = .cell (some (.int dv td))) (hd5 : dv.fmod 5 ≠ 0) (hc2 : (L + 1 + 1, oc2) ∈ news) (hoc2 : oc2.data = .cell (some (.ref D))) (hwd : (wd, ({ cls := .type "tuple", data := .seq [v1, v2].toArray } : Obj)) ∈ news) (x0 : m "words" = some (.ref wd)) (x1 : m "size" = some vsz) (x2 : m "alpha" = some (.bool al)) (x4 : m "key" = some vk) (x5 : m "back" = some vb) (x6 : m "lace" = some (.int lc ul)) (x8 : m "refused" = some (.bool rf)) (hz : ∀ m : PySem.Str → Option Value, m "size" = some vsz → m "width" = some v1 → m "height" = some v2 → Mine.SizeIn news m X Y ok) (bx0 : -10000000000 < X) (bx1 : X < 10000000000) (by0 : -10000000000 < Y) (by1 : Y < 10000000000) (htc : Mine.ColIs news vk tc) (hbc : Mine.ColIs news vb bc) (hD : (D, W.listOf [Value.int q0 uq].toArray k) ∈ news) (hqb : -10000000000 < q0 ∧ q0 < 10000000000) (x7 : m "said" = some (.int 0 us)) (x3 : m "palette" = some (.ref lp)) (hlp : (lp, W.listOf ps.toArray np) ∈ news) (hpa : Mine.PalAre news ps es) (hpl : ps.length ≤ 300) (hel : ∀ e ∈ es, e.length ≤ 8) (hbn : bc = .no) (hret : ((ok ∧ 0 < X ∧ 0 < Y ∧ X ≤ 2147483647 ∧ Y ≤ 2147483647 ∧ (al = true → tc = .no) ∧ (∀ q ∈ [q0], 1 ≤ q ∧ q ≤ 16)) ∧ Mine.PalGood es ∧ (q0 = 1 ∨ q0 = 2 ∨ q0 = 4 ∨ q0 = 8) ∧ tc = .no ∧ al = false ∧ false = false) → ∀ x h' tk' nw l2 k, (l2, W.listOf ps.toArray k) ∈ nw → (∀ p ∈ news, p ∈ nw) → Mine.Made w nw x X Y lc false al true [q0] q0 1 1 tc bc (.ref l2) → Fr h₀ L h' (fun y => if y = "writer" then some (.ref x) else m y) → News h₀ L h' nw → Q .next { s with heap := h', toks := tk' }) (hexc : ¬ ((ok ∧ 0 < X ∧ 0 < Y ∧ X ≤ 2147483647 ∧ Y ≤ 2147483647 ∧ (al = true → tc = .no) ∧ (∀ q ∈ [q0], 1 ≤ q ∧ q ≤ 16)) ∧ Mine.PalGood es ∧ (q0 = 1 ∨ q0 = 2 ∨ q0 = 4 ∨ q0 = 8) ∧ tc = .no ∧ al = false ∧ false = false) → ∀ h' tk', Fr h₀ L h' m → Q (.ret (.bool rf)) { s with heap := h', toks := tk' }) :
 wpAny (model rw_ar0036_02.row.prog w) ((Mine.Fa dp un (some []) l).deeper (envOfC nm (Mine.fnScope 34) L fa cd)) (exec (Mine.fnAt 34 24) (envOfC nm (Mine.fnScope 34) L fa cd)) Q (Mine.Out w ((Mine.Fa dp un (some []) l).deeper (envOfC nm (Mine.fnScope 34) L fa cd)) (envOfC nm (Mine.fnScope 34) L fa cd) R) s := by
 obtain ⟨F, X, N, T, Fs, sub, hk, hdp, hun⟩ := H
 (conv => arg 3; arg 1; whnf)
 walk_at "mine lit"
 w_on
 w_strict (
  revert X
  k_fill
  intro X
  
  k_steps)
 all_goals first | exact (Str.ofString "") | exact (0 : Nat) | exact Value.none | skip
 all_goals ((try dsimp only); first | exact hexc bad' _ _ (by assumption) | exact hret good' _ _ _ _ _ _ hl2' (by first | exact ob' | exact fun p hp => ob' p (.tail _ hp) | exact fun p hp => ob' p (.tail _ (.tail _ hp))) md' (by assumption) (by assumption))
theorem Mine.k41 : True := by
 k_with "i82 call ref" => ((k_here; (with_reducible show wpAny _ _ (call (Value.ref 359) _ _) _ _ _); k_dflt (refine' Mine.wcall_nG ?zwF ?zwX ?zwN ?zwT ?zwFs ?zwhf ?zwhk ?zwhd ?zwhu ?zwhz ?zwb1 ?zwb2 ?zwb3 ?zwb4 ?zwhg ?zwhp ?zwhn ?zwh6 ?zwhb ?zwhtc ?zwhbc ?zwhft ?zwhfb ?zwhql ?zwret ?zwrai; (case zwF => k_asm); (case zwX => k_asm); (case zwN => k_asm); (case zwT => k_asm); (case zwFs => assumption); (case zwhf => exact rfl); (case zwhk => exact rfl); (case zwhd => ktr_room); (case zwhu => ktr_units); (case zwhz => (intro m9 a9 b9 c9; exact Mine.SizeIn.mono (fun p hp => by walk_at "mine mem") (hz m9 a9 b9 c9))); (case zwb1 => assumption); (case zwb2 => assumption); (case zwb3 => assumption); (case zwb4 => assumption); (case zwhg => first | exact .D | exact .b _); (case zwhp => first | exact .one _ _ | exact .tup (by walk_at "mine mem") hdi | exact .tup (by walk_at "mine mem") (.cons _ _ .nil)); (case zwhn => first | assumption | exact List.cons_ne_nil _ _); (case zwh6 => first | assumption | exact Nat.le_of_ble_eq_true rfl); (case zwhb => first | assumption | (intro n9 h9; rw [List.mem_singleton] at h9; subst h9; first | assumption | exact hqb _ (.head _))); (case zwhtc => exact htc.mono (fun p hp => by walk_at "mine mem")); (case zwhbc => exact hbc.mono (fun p hp => by walk_at "mine mem")); (case zwhft => assumption); (case zwhfb => assumption); (case zwhql => first | assumption | exact .inl rfl)); (case' zwret => intro good' x' h' tk' nw' qs' sp' ob' md' F' N'); (case' zwrai => intro bad' e' a0' h' tk' oL' C9' fl' up')))
 k_with "i82 eval Subscript" => ((k_here; (with_reducible show wpAny _ _ (eval (Expr.Subscript (Expr.Name (Str.ofString "depths") _) _ _) _) _ _ _); exfalso; omega))
 trivial
theorem Mine.law_s24GnA
 {dp un : Nat} {nm : Str} {fa : Addr} {cd : Value} {l : List Env} {h₀ : Heap} {L : Addr} {m : Str → Option Value} {news : Mine.Led} {s : Shared} {Q : Flow → Shared → Prop} {R : Result → Shared → Prop}
 {X Y lc : Int} {ok : Prop} {wd D : Addr} {v1 v2 vsz vk vb : Value} {al rf : Bool} {tc bc : Mine.Col} {its : List Value} {qs : List Int} {k : Nat} {oc oc2 : Obj} {dv sd q0 : Int} {td ul us uq : Tok} {lp : Addr} {ps : List Value} {np : Nat} {es : List (List Int)}  (H : Mine.Here w h₀ L s.heap m news [] l p loose mean mg mb (Mine.fnScope 34) dp un 40)
 (Fs0 : Frs l []) (hc1 : (L + 1, oc) ∈ news) (hoc : oc.data = .cell (some (.int dv td))) (hd5 : dv.fmod 5 = 0) (hc2 : (L + 1 + 1, oc2) ∈ news) (hoc2 : oc2.data = .cell (some (.ref D))) (hwd : (wd, ({ cls := .type "tuple", data := .seq [v1, v2].toArray } : Obj)) ∈ news) (x0 : m "words" = some (.ref wd)) (x1 : m "size" = some vsz) (x2 : m "alpha" = some (.bool al)) (x4 : m "key" = some vk) (x5 : m "back" = some vb) (x6 : m "lace" = some (.int lc ul)) (x8 : m "refused" = some (.bool rf)) (hz : ∀ m : PySem.Str → Option Value, m "size" = some vsz → m "width" = some v1 → m "height" = some v2 → Mine.SizeIn news m X Y ok) (bx0 : -10000000000 < X) (bx1 : X < 10000000000) (by0 : -10000000000 < Y) (by1 : Y < 10000000000) (htc : Mine.ColIs news vk tc) (hbc : Mine.ColIs news vb bc) (hD : (D, W.listOf its.toArray k) ∈ news) (hdi : IntsAre its qs) (hil : its.length ≤ 4) (hqn : qs ≠ []) (hq6 : qs.length ≤ 6) (hqb : ∀ n ∈ qs, -10000000000 < n ∧ n < 10000000000) (hql : qs.length = 1 ∨ qs.length = (if (sd == 1) then 1 else 3) + (if al then 1 else 0)) (x7 : m "said" = some (.int sd us)) (hsd : sd ≠ 0) (x3 : m "palette" = some .none) (hft : Mine.ColForm (sd == 1) tc) (hfb : Mine.ColForm (sd == 1) bc) (hret : ((ok ∧ 0 < X ∧ 0 < Y ∧ X ≤ 2147483647 ∧ Y ≤ 2147483647 ∧ (al = true → tc = .no) ∧ (∀ q ∈ qs, 1 ≤ q ∧ q ≤ 16)) ∧ Mine.ColGood (sd == 1) tc ∧ Mine.ColGood (sd == 1) bc) → ∀ x h' tk' nw qs', Mine.Spread ((if (sd == 1) then 1 else 3) + (if al then 1 else 0)) qs qs' → (∀ p ∈ news, p ∈ nw) → Mine.Made w nw x X Y lc (sd == 1) al false qs' (Mine.fileN (sd == 1) al qs') (((if (sd == 1) then 1 else 3) + (if al then 1 else 0) : Nat) : Int) (if (sd == 1) then 1 else 3) tc bc .none → Fr h₀ L h' (fun y => if y = "writer" then some (.ref x) else m y) → News h₀ L h' nw → Q .next { s with heap := h', toks := tk' }) (hexc : ¬ ((ok ∧ 0 < X ∧ 0 < Y ∧ X ≤ 2147483647 ∧ Y ≤ 2147483647 ∧ (al = true → tc = .no) ∧ (∀ q ∈ qs, 1 ≤ q ∧ q ≤ 16)) ∧ Mine.ColGood (sd == 1) tc ∧ Mine.ColGood (sd == 1) bc) → ∀ h' tk', Fr h₀ L h' m → Q (.ret (.bool rf)) { s with heap := h', toks := tk' }) :
 wpAny (model rw_ar0036_02.row.prog w) ((Mine.Fa dp un (some []) l).deeper (envOfC nm (Mine.fnScope 34) L fa cd)) (exec (Mine.fnAt 34 24) (envOfC nm (Mine.fnScope 34) L fa cd)) Q (Mine.Out w ((Mine.Fa dp un (some []) l).deeper (envOfC nm (Mine.fnScope 34) L fa cd)) (envOfC nm (Mine.fnScope 34) L fa cd) R) s := by
 obtain ⟨F, X, N, T, Fs, sub, hk, hdp, hun⟩ := H
 (conv => arg 3; arg 1; whnf)
 walk_at "mine lit"
 w_on
 w_strict (
  revert X
  k_fill
  intro X
  
  k_steps)
 all_goals first | exact (Str.ofString "") | exact (0 : Nat) | exact Value.none | skip
 all_goals ((try dsimp only); first | exact hexc bad' _ _ (by assumption) | exact hret good' _ _ _ _ _ sp' (by first | exact ob' | exact fun p hp => ob' p (.tail _ hp) | exact fun p hp => ob' p (.tail _ (.tail _ hp))) md' (by assumption) (by assumption))
theorem Mine.k42 : True := by
 k_with "i82 call ref" => ((k_here; (with_reducible show wpAny _ _ (call (Value.ref 359) _ _) _ _ _); k_dflt (refine' Mine.wcall_nG ?zwF ?zwX ?zwN ?zwT ?zwFs ?zwhf ?zwhk ?zwhd ?zwhu ?zwhz ?zwb1 ?zwb2 ?zwb3 ?zwb4 ?zwhg ?zwhp ?zwhn ?zwh6 ?zwhb ?zwhtc ?zwhbc ?zwhft ?zwhfb ?zwhql ?zwret ?zwrai; (case zwF => k_asm); (case zwX => k_asm); (case zwN => k_asm); (case zwT => k_asm); (case zwFs => assumption); (case zwhf => exact rfl); (case zwhk => exact rfl); (case zwhd => ktr_room); (case zwhu => ktr_units); (case zwhz => (intro m9 a9 b9 c9; exact Mine.SizeIn.mono (fun p hp => by walk_at "mine mem") (hz m9 a9 b9 c9))); (case zwb1 => assumption); (case zwb2 => assumption); (case zwb3 => assumption); (case zwb4 => assumption); (case zwhg => first | exact .D | exact .b _); (case zwhp => first | exact .one _ _ | exact .tup (by walk_at "mine mem") hdi | exact .tup (by walk_at "mine mem") (.cons _ _ .nil)); (case zwhn => first | assumption | exact List.cons_ne_nil _ _); (case zwh6 => first | assumption | exact Nat.le_of_ble_eq_true rfl); (case zwhb => first | assumption | (intro n9 h9; rw [List.mem_singleton] at h9; subst h9; first | assumption | exact hqb _ (.head _))); (case zwhtc => exact htc.mono (fun p hp => by walk_at "mine mem")); (case zwhbc => exact hbc.mono (fun p hp => by walk_at "mine mem")); (case zwhft => assumption); (case zwhfb => assumption); (case zwhql => first | assumption | exact .inl rfl)); (case' zwret => intro good' x' h' tk' nw' qs' sp' ob' md' F' N'); (case' zwrai => intro bad' e' a0' h' tk' oL' C9' fl' up')))
 k_with "i82 eval Call" => ((k_here; (with_reducible show wpAny _ _ (eval (Expr.Call (Expr.Name (Str.ofString "tuple") _) _ _ _) _) _ _ _); exfalso; omega))
 trivial
theorem Mine.law_s24GnB
 {dp un : Nat} {nm : Str} {fa : Addr} {cd : Value} {l : List Env} {h₀ : Heap} {L : Addr} {m : Str → Option Value} {news : Mine.Led} {s : Shared} {Q : Flow → Shared → Prop} {R : Result → Shared → Prop}
 {X Y lc : Int} {ok : Prop} {wd D : Addr} {v1 v2 vsz vk vb : Value} {al rf : Bool} {tc bc : Mine.Col} {its : List Value} {qs : List Int} {k : Nat} {oc oc2 : Obj} {dv sd q0 : Int} {td ul us uq : Tok} {lp : Addr} {ps : List Value} {np : Nat} {es : List (List Int)}  (H : Mine.Here w h₀ L s.heap m news [] l p loose mean mg mb (Mine.fnScope 34) dp un 40)
 (Fs0 : Frs l []) (hc1 : (L + 1, oc) ∈ news) (hoc : oc.data = .cell (some (.int dv td))) (hd5 : dv.fmod 5 ≠ 0) (hc2 : (L + 1 + 1, oc2) ∈ news) (hoc2 : oc2.data = .cell (some (.ref D))) (hwd : (wd, ({ cls := .type "tuple", data := .seq [v1, v2].toArray } : Obj)) ∈ news) (x0 : m "words" = some (.ref wd)) (x1 : m "size" = some vsz) (x2 : m "alpha" = some (.bool al)) (x4 : m "key" = some vk) (x5 : m "back" = some vb) (x6 : m "lace" = some (.int lc ul)) (x8 : m "refused" = some (.bool rf)) (hz : ∀ m : PySem.Str → Option Value, m "size" = some vsz → m "width" = some v1 → m "height" = some v2 → Mine.SizeIn news m X Y ok) (bx0 : -10000000000 < X) (bx1 : X < 10000000000) (by0 : -10000000000 < Y) (by1 : Y < 10000000000) (htc : Mine.ColIs news vk tc) (hbc : Mine.ColIs news vb bc) (hD : (D, W.listOf (Value.int q0 uq :: its).toArray k) ∈ news) (hqb : -10000000000 < q0 ∧ q0 < 10000000000) (x7 : m "said" = some (.int sd us)) (hsd : sd ≠ 0) (x3 : m "palette" = some .none) (hft : Mine.ColForm (sd == 1) tc) (hfb : Mine.ColForm (sd == 1) bc) (hret : ((ok ∧ 0 < X ∧ 0 < Y ∧ X ≤ 2147483647 ∧ Y ≤ 2147483647 ∧ (al = true → tc = .no) ∧ (∀ q ∈ [q0], 1 ≤ q ∧ q ≤ 16)) ∧ Mine.ColGood (sd == 1) tc ∧ Mine.ColGood (sd == 1) bc) → ∀ x h' tk' nw qs', Mine.Spread ((if (sd == 1) then 1 else 3) + (if al then 1 else 0)) [q0] qs' → (∀ p ∈ news, p ∈ nw) → Mine.Made w nw x X Y lc (sd == 1) al false qs' (Mine.fileN (sd == 1) al qs') (((if (sd == 1) then 1 else 3) + (if al then 1 else 0) : Nat) : Int) (if (sd == 1) then 1 else 3) tc bc .none → Fr h₀ L h' (fun y => if y = "writer" then some (.ref x) else m y) → News h₀ L h' nw → Q .next { s with heap := h', toks := tk' }) (hexc : ¬ ((ok ∧ 0 < X ∧ 0 < Y ∧ X ≤ 2147483647 ∧ Y ≤ 2147483647 ∧ (al = true → tc = .no) ∧ (∀ q ∈ [q0], 1 ≤ q ∧ q ≤ 16)) ∧ Mine.ColGood (sd == 1) tc ∧ Mine.ColGood (sd == 1) bc) → ∀ h' tk', Fr h₀ L h' m → Q (.ret (.bool rf)) { s with heap := h', toks := tk' }) :
 wpAny (model rw_ar0036_02.row.prog w) ((Mine.Fa dp un (some []) l).deeper (envOfC nm (Mine.fnScope 34) L fa cd)) (exec (Mine.fnAt 34 24) (envOfC nm (Mine.fnScope 34) L fa cd)) Q (Mine.Out w ((Mine.Fa dp un (some []) l).deeper (envOfC nm (Mine.fnScope 34) L fa cd)) (envOfC nm (Mine.fnScope 34) L fa cd) R) s := by
 obtain ⟨F, X, N, T, Fs, sub, hk, hdp, hun⟩ := H
 (conv => arg 3; arg 1; whnf)
 walk_at "mine lit"
 w_on
 w_strict (
  revert X
  k_fill
  intro X
  
  k_steps)
 all_goals first | exact (Str.ofString "") | exact (0 : Nat) | exact Value.none | skip
 all_goals ((try dsimp only); first | exact hexc bad' _ _ (by assumption) | exact hret good' _ _ _ _ _ sp' (by first | exact ob' | exact fun p hp => ob' p (.tail _ hp) | exact fun p hp => ob' p (.tail _ (.tail _ hp))) md' (by assumption) (by assumption))
theorem Mine.k43 : True := by
 k_with "i82 call ref" => ((k_here; (with_reducible show wpAny _ _ (call (Value.ref 359) _ _) _ _ _); k_dflt (refine' Mine.wcall_lG ?zwF ?zwX ?zwN ?zwT ?zwFs ?zwhf ?zwhk ?zwhd ?zwhu ?zwhz ?zwb1 ?zwb2 ?zwb3 ?zwb4 ?zwhg ?zwhp ?zwhn ?zwh6 ?zwhb ?zwhtc ?zwhbc ?zwhlp ?zwhpa ?zwhpl ?zwhel ?zwhqs ?zwhbn ?zwret ?zwrai; (case zwF => k_asm); (case zwX => k_asm); (case zwN => k_asm); (case zwT => k_asm); (case zwFs => assumption); (case zwhf => exact rfl); (case zwhk => exact rfl); (case zwhd => ktr_room); (case zwhu => ktr_units); (case zwhz => (intro m9 a9 b9 c9; exact Mine.SizeIn.mono (fun p hp => by walk_at "mine mem") (hz m9 a9 b9 c9))); (case zwb1 => assumption); (case zwb2 => assumption); (case zwb3 => assumption); (case zwb4 => assumption); (case zwhg => first | exact .D | exact .b _); (case zwhp => first | exact .one _ _ | exact .tup (by walk_at "mine mem") hdi | exact .tup (by walk_at "mine mem") (.cons _ _ .nil)); (case zwhn => first | assumption | exact List.cons_ne_nil _ _); (case zwh6 => first | assumption | exact Nat.le_of_ble_eq_true rfl); (case zwhb => first | assumption | (intro n9 h9; rw [List.mem_singleton] at h9; subst h9; first | assumption | exact hqb _ (.head _))); (case zwhtc => exact htc.mono (fun p hp => by walk_at "mine mem")); (case zwhbc => exact hbc.mono (fun p hp => by walk_at "mine mem")); (case zwhlp => walk_at "mine mem"); (case zwhpa => exact hpa.mono (fun p hp => by walk_at "mine mem")); (case zwhpl => assumption); (case zwhel => assumption); (case zwhqs => first | exact rfl | assumption); (case zwhbn => assumption)); (case' zwret => intro good' x' h' tk' nw' l2' k' hl2' ob' md' F' N'); (case' zwrai => intro bad' e' a0' h' tk' oL' C9' fl' up')))
 k_with "i82 eval Subscript" => ((k_here; (with_reducible show wpAny _ _ (eval (Expr.Subscript (Expr.Name (Str.ofString "depths") _) _ _) _) _ _ _); exfalso; omega))
 trivial
theorem Mine.law_s24GlA
 {dp un : Nat} {nm : Str} {fa : Addr} {cd : Value} {l : List Env} {h₀ : Heap} {L : Addr} {m : Str → Option Value} {news : Mine.Led} {s : Shared} {Q : Flow → Shared → Prop} {R : Result → Shared → Prop}
 {X Y lc : Int} {ok : Prop} {wd D : Addr} {v1 v2 vsz vk vb : Value} {al rf : Bool} {tc bc : Mine.Col} {its : List Value} {qs : List Int} {k : Nat} {oc oc2 : Obj} {dv sd q0 : Int} {td ul us uq : Tok} {lp : Addr} {ps : List Value} {np : Nat} {es : List (List Int)}  (H : Mine.Here w h₀ L s.heap m news [] l p loose mean mg mb (Mine.fnScope 34) dp un 40)
 (Fs0 : Frs l []) (hc1 : (L + 1, oc) ∈ news) (hoc : oc.data = .cell (some (.int dv td))) (hd5 : dv.fmod 5 = 0) (hc2 : (L + 1 + 1, oc2) ∈ news) (hoc2 : oc2.data = .cell (some (.ref D))) (hwd : (wd, ({ cls := .type "tuple", data := .seq [v1, v2].toArray } : Obj)) ∈ news) (x0 : m "words" = some (.ref wd)) (x1 : m "size" = some vsz) (x2 : m "alpha" = some (.bool al)) (x4 : m "key" = some vk) (x5 : m "back" = some vb) (x6 : m "lace" = some (.int lc ul)) (x8 : m "refused" = some (.bool rf)) (hz : ∀ m : PySem.Str → Option Value, m "size" = some vsz → m "width" = some v1 → m "height" = some v2 → Mine.SizeIn news m X Y ok) (bx0 : -10000000000 < X) (bx1 : X < 10000000000) (by0 : -10000000000 < Y) (by1 : Y < 10000000000) (htc : Mine.ColIs news vk tc) (hbc : Mine.ColIs news vb bc) (hD : (D, W.listOf [Value.int q0 uq].toArray k) ∈ news) (hqb : -10000000000 < q0 ∧ q0 < 10000000000) (x7 : m "said" = some (.int sd us)) (hsd : sd ≠ 0) (x3 : m "palette" = some (.ref lp)) (hlp : (lp, W.listOf ps.toArray np) ∈ news) (hpa : Mine.PalAre news ps es) (hpl : ps.length ≤ 300) (hel : ∀ e ∈ es, e.length ≤ 8) (hbn : bc = .no) (hret : ((ok ∧ 0 < X ∧ 0 < Y ∧ X ≤ 2147483647 ∧ Y ≤ 2147483647 ∧ (al = true → tc = .no) ∧ (∀ q ∈ [q0], 1 ≤ q ∧ q ≤ 16)) ∧ Mine.PalGood es ∧ (q0 = 1 ∨ q0 = 2 ∨ q0 = 4 ∨ q0 = 8) ∧ tc = .no ∧ al = false ∧ (sd == 1) = false) → ∀ x h' tk' nw l2 k, (l2, W.listOf ps.toArray k) ∈ nw → (∀ p ∈ news, p ∈ nw) → Mine.Made w nw x X Y lc false al true [q0] q0 1 1 tc bc (.ref l2) → Fr h₀ L h' (fun y => if y = "writer" then some (.ref x) else m y) → News h₀ L h' nw → Q .next { s with heap := h', toks := tk' }) (hexc : ¬ ((ok ∧ 0 < X ∧ 0 < Y ∧ X ≤ 2147483647 ∧ Y ≤ 2147483647 ∧ (al = true → tc = .no) ∧ (∀ q ∈ [q0], 1 ≤ q ∧ q ≤ 16)) ∧ Mine.PalGood es ∧ (q0 = 1 ∨ q0 = 2 ∨ q0 = 4 ∨ q0 = 8) ∧ tc = .no ∧ al = false ∧ (sd == 1) = false) → ∀ h' tk', Fr h₀ L h' m → Q (.ret (.bool rf)) { s with heap := h', toks := tk' }) :
 wpAny (model rw_ar0036_02.row.prog w) ((Mine.Fa dp un (some []) l).deeper (envOfC nm (Mine.fnScope 34) L fa cd)) (exec (Mine.fnAt 34 24) (envOfC nm (Mine.fnScope 34) L fa cd)) Q (Mine.Out w ((Mine.Fa dp un (some []) l).deeper (envOfC nm (Mine.fnScope 34) L fa cd)) (envOfC nm (Mine.fnScope 34) L fa cd) R) s := by
 obtain ⟨F, X, N, T, Fs, sub, hk, hdp, hun⟩ := H
 (conv => arg 3; arg 1; whnf)
 walk_at "mine lit"
 w_on
 w_strict (
  revert X
  k_fill
  intro X
  
  k_steps)
 all_goals first | exact (Str.ofString "") | exact (0 : Nat) | exact Value.none | skip
 all_goals ((try dsimp only); first | exact hexc bad' _ _ (by assumption) | exact hret good' _ _ _ _ _ _ hl2' (by first | exact ob' | exact fun p hp => ob' p (.tail _ hp) | exact fun p hp => ob' p (.tail _ (.tail _ hp))) md' (by assumption) (by assumption))
theorem Mine.k44 : True := by
 k_with "i82 call ref" => ((k_here; (with_reducible show wpAny _ _ (call (Value.ref 359) _ _) _ _ _); k_dflt (refine' Mine.wcall_lG ?zwF ?zwX ?zwN ?zwT ?zwFs ?zwhf ?zwhk ?zwhd ?zwhu ?zwhz ?zwb1 ?zwb2 ?zwb3 ?zwb4 ?zwhg ?zwhp ?zwhn ?zwh6 ?zwhb ?zwhtc ?zwhbc ?zwhlp ?zwhpa ?zwhpl ?zwhel ?zwhqs ?zwhbn ?zwret ?zwrai; (case zwF => k_asm); (case zwX => k_asm); (case zwN => k_asm); (case zwT => k_asm); (case zwFs => assumption); (case zwhf => exact rfl); (case zwhk => exact rfl); (case zwhd => ktr_room); (case zwhu => ktr_units); (case zwhz => (intro m9 a9 b9 c9; exact Mine.SizeIn.mono (fun p hp => by walk_at "mine mem") (hz m9 a9 b9 c9))); (case zwb1 => assumption); (case zwb2 => assumption); (case zwb3 => assumption); (case zwb4 => assumption); (case zwhg => first | exact .D | exact .b _); (case zwhp => first | exact .one _ _ | exact .tup (by walk_at "mine mem") hdi | exact .tup (by walk_at "mine mem") (.cons _ _ .nil)); (case zwhn => first | assumption | exact List.cons_ne_nil _ _); (case zwh6 => first | assumption | exact Nat.le_of_ble_eq_true rfl); (case zwhb => first | assumption | (intro n9 h9; rw [List.mem_singleton] at h9; subst h9; first | assumption | exact hqb _ (.head _))); (case zwhtc => exact htc.mono (fun p hp => by walk_at "mine mem")); (case zwhbc => exact hbc.mono (fun p hp => by walk_at "mine mem")); (case zwhlp => walk_at "mine mem"); (case zwhpa => exact hpa.mono (fun p hp => by walk_at "mine mem")); (case zwhpl => assumption); (case zwhel => assumption); (case zwhqs => first | exact rfl | assumption); (case zwhbn => assumption)); (case' zwret => intro good' x' h' tk' nw' l2' k' hl2' ob' md' F' N'); (case' zwrai => intro bad' e' a0' h' tk' oL' C9' fl' up')))
 k_with "i82 eval Call" => ((k_here; (with_reducible show wpAny _ _ (eval (Expr.Call (Expr.Name (Str.ofString "tuple") _) _ _ _) _) _ _ _); exfalso; omega))
 trivial
theorem Mine.law_s24GlB
 {dp un : Nat} {nm : Str} {fa : Addr} {cd : Value} {l : List Env} {h₀ : Heap} {L : Addr} {m : Str → Option Value} {news : Mine.Led} {s : Shared} {Q : Flow → Shared → Prop} {R : Result → Shared → Prop}
 {X Y lc : Int} {ok : Prop} {wd D : Addr} {v1 v2 vsz vk vb : Value} {al rf : Bool} {tc bc : Mine.Col} {its : List Value} {qs : List Int} {k : Nat} {oc oc2 : Obj} {dv sd q0 : Int} {td ul us uq : Tok} {lp : Addr} {ps : List Value} {np : Nat} {es : List (List Int)}  (H : Mine.Here w h₀ L s.heap m news [] l p loose mean mg mb (Mine.fnScope 34) dp un 40)
 (Fs0 : Frs l []) (hc1 : (L + 1, oc) ∈ news) (hoc : oc.data = .cell (some (.int dv td))) (hd5 : dv.fmod 5 ≠ 0) (hc2 : (L + 1 + 1, oc2) ∈ news) (hoc2 : oc2.data = .cell (some (.ref D))) (hwd : (wd, ({ cls := .type "tuple", data := .seq [v1, v2].toArray } : Obj)) ∈ news) (x0 : m "words" = some (.ref wd)) (x1 : m "size" = some vsz) (x2 : m "alpha" = some (.bool al)) (x4 : m "key" = some vk) (x5 : m "back" = some vb) (x6 : m "lace" = some (.int lc ul)) (x8 : m "refused" = some (.bool rf)) (hz : ∀ m : PySem.Str → Option Value, m "size" = some vsz → m "width" = some v1 → m "height" = some v2 → Mine.SizeIn news m X Y ok) (bx0 : -10000000000 < X) (bx1 : X < 10000000000) (by0 : -10000000000 < Y) (by1 : Y < 10000000000) (htc : Mine.ColIs news vk tc) (hbc : Mine.ColIs news vb bc) (hD : (D, W.listOf [Value.int q0 uq].toArray k) ∈ news) (hqb : -10000000000 < q0 ∧ q0 < 10000000000) (x7 : m "said" = some (.int sd us)) (hsd : sd ≠ 0) (x3 : m "palette" = some (.ref lp)) (hlp : (lp, W.listOf ps.toArray np) ∈ news) (hpa : Mine.PalAre news ps es) (hpl : ps.length ≤ 300) (hel : ∀ e ∈ es, e.length ≤ 8) (hbn : bc = .no) (hret : ((ok ∧ 0 < X ∧ 0 < Y ∧ X ≤ 2147483647 ∧ Y ≤ 2147483647 ∧ (al = true → tc = .no) ∧ (∀ q ∈ [q0], 1 ≤ q ∧ q ≤ 16)) ∧ Mine.PalGood es ∧ (q0 = 1 ∨ q0 = 2 ∨ q0 = 4 ∨ q0 = 8) ∧ tc = .no ∧ al = false ∧ (sd == 1) = false) → ∀ x h' tk' nw l2 k, (l2, W.listOf ps.toArray k) ∈ nw → (∀ p ∈ news, p ∈ nw) → Mine.Made w nw x X Y lc false al true [q0] q0 1 1 tc bc (.ref l2) → Fr h₀ L h' (fun y => if y = "writer" then some (.ref x) else m y) → News h₀ L h' nw → Q .next { s with heap := h', toks := tk' }) (hexc : ¬ ((ok ∧ 0 < X ∧ 0 < Y ∧ X ≤ 2147483647 ∧ Y ≤ 2147483647 ∧ (al = true → tc = .no) ∧ (∀ q ∈ [q0], 1 ≤ q ∧ q ≤ 16)) ∧ Mine.PalGood es ∧ (q0 = 1 ∨ q0 = 2 ∨ q0 = 4 ∨ q0 = 8) ∧ tc = .no ∧ al = false ∧ (sd == 1) = false) → ∀ h' tk', Fr h₀ L h' m → Q (.ret (.bool rf)) { s with heap := h', toks := tk' }) :
 wpAny (model rw_ar0036_02.row.prog w) ((Mine.Fa dp un (some []) l).deeper (envOfC nm (Mine.fnScope 34) L fa cd)) (exec (Mine.fnAt 34 24) (envOfC nm (Mine.fnScope 34) L fa cd)) Q (Mine.Out w ((Mine.Fa dp un (some []) l).deeper (envOfC nm (Mine.fnScope 34) L fa cd)) (envOfC nm (Mine.fnScope 34) L fa cd) R) s := by
 obtain ⟨F, X, N, T, Fs, sub, hk, hdp, hun⟩ := H
 (conv => arg 3; arg 1; whnf)
 walk_at "mine lit"
 w_on
 w_strict (
  revert X
  k_fill
  intro X
  
  k_steps)
 all_goals first | exact (Str.ofString "") | exact (0 : Nat) | exact Value.none | skip
 all_goals ((try dsimp only); first | exact hexc bad' _ _ (by assumption) | exact hret good' _ _ _ _ _ _ hl2' (by first | exact ob' | exact fun p hp => ob' p (.tail _ hp) | exact fun p hp => ob' p (.tail _ (.tail _ hp))) md' (by assumption) (by assumption))
end
section
namespace Mine
theorem all_rep {n : Nat} {q0 : Int} {P : Int → Prop} (hn : 1 ≤ n) : (∀ q ∈ List.replicate n q0, P q) ↔ ∀ q ∈ [q0], P q := by
  constructor
  · intro h q hq
    rw [List.mem_singleton] at hq
    subst hq
    exact h q (List.mem_replicate.mpr ⟨by omega, rfl⟩)
  · intro h q hq
    rw [List.eq_of_mem_replicate hq]
    exact h q0 (.head _)
section
variable {w : World} {p : Program} {loose : List Str} {mean : ExcName → Option Value} {mg mb : Str → Option Value} {dp un : Nat} {nm : Str} {fa : Addr} {cd : Value} {h₀ : Heap} {L : Addr} {m : Str → Option Value} {news : Led} {s : Shared} {Q : Flow → Shared → Prop} {R : Result → Shared → Prop} {rest : List Stmt}
theorem law_24_n {ls : Addr} {md X Y sd nb fm : Int} {al g : Bool} {pl : Int} {lc dv cl gr : Int} {ok : Prop} {rf : Bool} {kc bc : Col} {c3 : Option Value} {oc1 oc2 oc3 : Obj} {td t5 t6 t7 : Tok} {wd D : Addr} {its : List Value} {k : Nat} {v1 v2 vsz vk vb : Value} (H : Here w h₀ L s.heap m news [] [] p loose mean mg mb (fnScope 34) dp un 40) (V : Vars m ls md X Y sd nb fm al g pl) (x0 : -3 ≤ X) (x1 : X ≤ 4294967292) (y0 : -3 ≤ Y) (y1 : Y ≤ 4294967292) (hs0 : 0 ≤ sd) (hfm : fm < 2) (hg : g = true ↔ sd = 1 ∨ (sd = 0 ∧ fm < 2)) (hpl : pl = (if g then 1 else 3) + (if al then 1 else 0)) (hc1 : (L + 1, oc1) ∈ news) (d1 : oc1.data = .cell (some (.int dv td))) (hc2 : (L + 1 + 1, oc2) ∈ news) (d2 : oc2.data = .cell (some (.ref D))) (hc3 : (L + 1 + 1 + 1, oc3) ∈ news) (e3 : oc3.data = .cell c3) (hD : (D, W.listOf its.toArray k) ∈ news) (hdi : IntsAre its (depOf dv pl)) (hwd : (wd, ({ cls := .type "tuple", data := .seq [v1, v2].toArray } : Obj)) ∈ news) (q0 : m "words" = some (.ref wd)) (q1 : m "size" = some vsz) (q4 : m "key" = some vk) (q5 : m "back" = some vb) (q6 : m "lace" = some (.int lc t5)) (q7 : m "clear" = some (.int cl t6)) (q8 : m "ground" = some (.int gr t7)) (q9 : m "refused" = some (.bool rf)) (hz : ∀ m : PySem.Str → Option Value, m "size" = some vsz → m "width" = some v1 → m "height" = some v2 → SizeIn news m X Y ok) (htc : ColIs news vk kc) (hbc : ColIs news vb bc) (cs1 : ColSpec cl g kc) (cs2 : ColSpec gr g bc) (q3 : m "palette" = some .none) (hrf : rf = true ↔ ¬ ((ok ∧ 0 < X ∧ 0 < Y ∧ X ≤ 2147483647 ∧ Y ≤ 2147483647 ∧ (al = true → kc = .no) ∧ (∀ q ∈ depOf dv pl, 1 ≤ q ∧ q ≤ 16)) ∧ ColGood g kc ∧ ColGood g bc)) (ret : ∀ m' h' tk', Fr h₀ L h' m' → Q (.ret (.bool true)) { s with heap := h', toks := tk' }) :
    wpAny (model rw_ar0036_02.row.prog w) ((Fa dp un (some []) []).deeper (envOfC nm (fnScope 34) L fa cd)) (execs [fnAt 34 24, fnAt 34 25, fnAt 34 26, fnAt 34 27, fnAt 34 28, fnAt 34 29, fnAt 34 30, fnAt 34 31, fnAt 34 32] (envOfC nm (fnScope 34) L fa cd)) Q (Out w ((Fa dp un (some []) []).deeper (envOfC nm (fnScope 34) L fa cd)) (envOfC nm (fnScope 34) L fa cd) R) s := by
  obtain ⟨ts, es⟩ := V.said
  obtain ⟨tw, ew⟩ := V.wide
  obtain ⟨th, eh⟩ := V.high
  obtain ⟨tp, ep⟩ := V.planes
  have hpn : (((if g then 1 else 3) + (if al then 1 else 0) : Nat) : Int) = pl := by rw [hpl]; cases g <;> cases al <;> rfl
  have hp14 : 1 ≤ pl ∧ pl ≤ 4 := by rw [hpl]; cases g <;> cases al <;> decide
  have hlen : (depOf dv pl).length = (if g then 1 else 3) + (if al then 1 else 0) := by rw [depOf_len, ← hpn]; exact Int.toNat_natCast _
  have hil := hdi.length
  have hl4 : (depOf dv pl).length ≤ 4 := by rw [depOf_len]; omega
  have hl1 : 0 < (depOf dv pl).length := by rw [depOf_len]; omega
  have hlp : ((depOf dv pl).length : Int) = pl := by rw [depOf_len]; omega
  have hbd : ∀ n ∈ depOf dv pl, -10000000000 < n ∧ n < 10000000000 := fun n hn => by have := depOf_bd n hn; omega
  have aft : ((ok ∧ 0 < X ∧ 0 < Y ∧ X ≤ 2147483647 ∧ Y ≤ 2147483647 ∧ (al = true → kc = .no) ∧ (∀ q ∈ depOf dv pl, 1 ≤ q ∧ q ≤ 16)) ∧ ColGood g kc ∧ ColGood g bc) → ∀ x h' tk' nw, (∀ p ∈ news, p ∈ nw) → Made w nw x X Y lc g al false (depOf dv pl) (fileN g al (depOf dv pl)) pl (if g then 1 else 3) kc bc .none → Fr h₀ L h' (fun y => if y = "writer" then some (.ref x) else m y) → News h₀ L h' nw → wpAny (model rw_ar0036_02.row.prog w) ((Fa dp un (some []) []).deeper (envOfC nm (fnScope 34) L fa cd)) (execs [fnAt 34 25, fnAt 34 26, fnAt 34 27, fnAt 34 28, fnAt 34 29, fnAt 34 30, fnAt 34 31, fnAt 34 32] (envOfC nm (fnScope 34) L fa cd)) Q (Out w ((Fa dp un (some []) []).deeper (envOfC nm (fnScope 34) L fa cd)) (envOfC nm (fnScope 34) L fa cd) R) { s with heap := h', toks := tk' } := by
    intro good x h' tk' nw sb md F N
    have hrf0 : rf = false := by
      cases hq : rf with
      | false => rfl
      | true => exact absurd good (hrf.mp hq)
    subst hrf0
    exact law_2_n (t2 := tw) (t3 := th) (t4 := tp) (t5 := t5) (t6 := t6) (t7 := t7) (s := { s with heap := h', toks := tk' }) (H.next F N (fun _ h => nomatch h)) md (by walk_at "mine see") (by walk_at "mine see") (by walk_at "mine see") (by walk_at "mine see") (sb _ hc3) e3 ((if_neg (by decide)).trans V.alpha) (by walk_at "mine see") (by walk_at "mine see") (by walk_at "mine see") (by walk_at "mine see") (by walk_at "mine see") (by walk_at "mine see") (htc.mono sb) (hbc.mono sb) ((if_neg (by decide)).trans V.grey) (by walk_at "mine see") cs1.2.2.2 cs2.2.2.2 (sb _ hc2) d2 (sb _ hD) hdi (by omega) hl1 good.1.2.2.2.2.2.2 hlp hpl ret
  have exc : ¬ ((ok ∧ 0 < X ∧ 0 < Y ∧ X ≤ 2147483647 ∧ Y ≤ 2147483647 ∧ (al = true → kc = .no) ∧ (∀ q ∈ depOf dv pl, 1 ≤ q ∧ q ≤ 16)) ∧ ColGood g kc ∧ ColGood g bc) → ∀ h' tk', Fr h₀ L h' m → Q (.ret (.bool rf)) { s with heap := h', toks := tk' } := fun bad h' tk' F => by rw [hrf.mpr bad]; exact ret _ h' tk' F
  by_cases hs : sd = 0
  · subst hs
    obtain rfl : g = true := hg.mpr (.inr ⟨rfl, hfm⟩)
    by_cases h5 : dv.fmod 5 = 0
    · exact wpAny_execs_cons (law_s24DnA (es := []) (np := 0) (ps := []) (lp := 0) (q0 := 0) (uq := 0) (sd := 0) H H.Fs hc1 d1 h5 hc2 d2 hwd q0 q1 V.alpha q4 q5 q6 q9 hz (by omega) (by omega) (by omega) (by omega) htc hbc hD hdi (by omega) (List.ne_nil_of_length_pos hl1) (by omega) hbd (.inr hlen) es q3 cs1.2.1 cs2.2.1 (fun good x h' tk' nw qs' sp sb md F N => aft good x h' tk' nw sb (by obtain rfl := spread_id hlen sp; rw [hpn] at md; exact md) F N) fun bad h' tk' F => exc bad h' tk' F)
    · obtain ⟨qz, uq, its', qs', rfl, eqs, hr⟩ := ints_one hdi hl1
      have er := depOf_rep (dv := dv) (pl := pl) h5
      have eq0 : qz = dv.fmod 19 - 1 := by
        have : qz ∈ List.replicate pl.toNat (dv.fmod 19 - 1) := by rw [← er, eqs]; exact .head _
        exact List.eq_of_mem_replicate this
      have er2 : depOf dv pl = List.replicate pl.toNat qz := by rw [er, eq0]
      have n1 : 1 ≤ pl.toNat := by omega
      have nn : pl.toNat = (if true then 1 else 3) + (if al then 1 else 0) := by rw [← hlen, depOf_len]
      have iff : ((ok ∧ 0 < X ∧ 0 < Y ∧ X ≤ 2147483647 ∧ Y ≤ 2147483647 ∧ (al = true → kc = .no) ∧ (∀ q ∈ [qz], 1 ≤ q ∧ q ≤ 16)) ∧ ColGood true kc ∧ ColGood true bc) ↔ ((ok ∧ 0 < X ∧ 0 < Y ∧ X ≤ 2147483647 ∧ Y ≤ 2147483647 ∧ (al = true → kc = .no) ∧ (∀ q ∈ depOf dv pl, 1 ≤ q ∧ q ≤ 16)) ∧ ColGood true kc ∧ ColGood true bc) := by rw [er2, all_rep n1]
      exact wpAny_execs_cons (law_s24DnB (es := []) (np := 0) (ps := []) (lp := 0) (qs := []) (sd := 0) H H.Fs hc1 d1 h5 hc2 d2 hwd q0 q1 V.alpha q4 q5 q6 q9 hz (by omega) (by omega) (by omega) (by omega) htc hbc hD (hbd qz (by rw [eqs]; exact .head _)) es q3 cs1.2.1 cs2.2.1 (fun good x h' tk' nw qs2 sp sb md F N => aft (iff.mp good) x h' tk' nw sb (by have e2 := spread_rep sp; rw [← nn, ← er2] at e2; obtain rfl := e2; rw [hpn] at md; exact md) F N) fun bad h' tk' F => exc (fun g9 => bad (iff.mpr g9)) h' tk' F)
  · obtain rfl : g = (sd == 1) := by
      cases hq : (sd == 1) with
      | true => exact hg.mpr (.inl (by simpa using hq))
      | false =>
        cases g with
        | false => rfl
        | true =>
          have := hg.mp rfl
          simp at hq
          omega
    by_cases h5 : dv.fmod 5 = 0
    · exact wpAny_execs_cons (law_s24GnA (es := []) (np := 0) (ps := []) (lp := 0) (q0 := 0) (uq := 0) H H.Fs hc1 d1 h5 hc2 d2 hwd q0 q1 V.alpha q4 q5 q6 q9 hz (by omega) (by omega) (by omega) (by omega) htc hbc hD hdi (by omega) (List.ne_nil_of_length_pos hl1) (by omega) hbd (.inr hlen) es hs q3 cs1.2.1 cs2.2.1 (fun good x h' tk' nw qs' sp sb md F N => aft good x h' tk' nw sb (by obtain rfl := spread_id hlen sp; rw [hpn] at md; exact md) F N) fun bad h' tk' F => exc bad h' tk' F)
    · obtain ⟨qz, uq, its', qs', rfl, eqs, hr⟩ := ints_one hdi hl1
      have er := depOf_rep (dv := dv) (pl := pl) h5
      have eq0 : qz = dv.fmod 19 - 1 := by
        have : qz ∈ List.replicate pl.toNat (dv.fmod 19 - 1) := by rw [← er, eqs]; exact .head _
        exact List.eq_of_mem_replicate this
      have er2 : depOf dv pl = List.replicate pl.toNat qz := by rw [er, eq0]
      have n1 : 1 ≤ pl.toNat := by omega
      have nn : pl.toNat = (if (sd == 1) then 1 else 3) + (if al then 1 else 0) := by rw [← hlen, depOf_len]
      have iff : ((ok ∧ 0 < X ∧ 0 < Y ∧ X ≤ 2147483647 ∧ Y ≤ 2147483647 ∧ (al = true → kc = .no) ∧ (∀ q ∈ [qz], 1 ≤ q ∧ q ≤ 16)) ∧ ColGood (sd == 1) kc ∧ ColGood (sd == 1) bc) ↔ ((ok ∧ 0 < X ∧ 0 < Y ∧ X ≤ 2147483647 ∧ Y ≤ 2147483647 ∧ (al = true → kc = .no) ∧ (∀ q ∈ depOf dv pl, 1 ≤ q ∧ q ≤ 16)) ∧ ColGood (sd == 1) kc ∧ ColGood (sd == 1) bc) := by rw [er2, all_rep n1]
      exact wpAny_execs_cons (law_s24GnB (es := []) (np := 0) (ps := []) (lp := 0) (qs := []) H H.Fs hc1 d1 h5 hc2 d2 hwd q0 q1 V.alpha q4 q5 q6 q9 hz (by omega) (by omega) (by omega) (by omega) htc hbc hD (hbd qz (by rw [eqs]; exact .head _)) es hs q3 cs1.2.1 cs2.2.1 (fun good x h' tk' nw qs2 sp sb md F N => aft (iff.mp good) x h' tk' nw sb (by have e2 := spread_rep sp; rw [← nn, ← er2] at e2; obtain rfl := e2; rw [hpn] at md; exact md) F N) fun bad h' tk' F => exc (fun g9 => bad (iff.mpr g9)) h' tk' F)
end
end Mine
end
section
namespace Mine
section
variable {w : World} {p : Program} {loose : List Str} {mean : ExcName → Option Value} {mg mb : Str → Option Value} {dp un : Nat} {nm : Str} {fa : Addr} {cd : Value} {h₀ : Heap} {L : Addr} {m : Str → Option Value} {news : Led} {s : Shared} {Q : Flow → Shared → Prop} {R : Result → Shared → Prop} {rest : List Stmt}
theorem law_24_l {ls : Addr} {md X Y sd nb fm : Int} {al g : Bool} {lc dv cl gr : Int} {ok : Prop} {rf : Bool} {kc bc : Col} {c3 : Option Value} {oc1 oc2 oc3 : Obj} {td t5 t6 t7 : Tok} {wd D : Addr} {qz : Int} {uz : Tok} {lp : Addr} {ps : List Value} {np : Nat} {es0 : List (List Int)} {k : Nat} {v1 v2 vsz vk vb : Value} (H : Here w h₀ L s.heap m news [] [] p loose mean mg mb (fnScope 34) dp un 40) (V : Vars m ls md X Y sd nb fm al g 1) (x0 : -3 ≤ X) (x1 : X ≤ 4294967292) (y0 : -3 ≤ Y) (y1 : Y ≤ 4294967292) (hs0 : 0 ≤ sd) (hg : g = true ↔ sd = 1) (hc1 : (L + 1, oc1) ∈ news) (d1 : oc1.data = .cell (some (.int dv td))) (hc2 : (L + 1 + 1, oc2) ∈ news) (d2 : oc2.data = .cell (some (.ref D))) (hc3 : (L + 1 + 1 + 1, oc3) ∈ news) (e3 : oc3.data = .cell c3) (hD : (D, W.listOf [Value.int qz uz].toArray k) ∈ news) (hqz : -1 ≤ qz ∧ qz ≤ 17) (hwd : (wd, ({ cls := .type "tuple", data := .seq [v1, v2].toArray } : Obj)) ∈ news) (q0 : m "words" = some (.ref wd)) (q1 : m "size" = some vsz) (q4 : m "key" = some vk) (q5 : m "back" = some vb) (q6 : m "lace" = some (.int lc t5)) (q7 : m "clear" = some (.int cl t6)) (q8 : m "ground" = some (.int gr t7)) (q9 : m "refused" = some (.bool rf)) (hz : ∀ m : PySem.Str → Option Value, m "size" = some vsz → m "width" = some v1 → m "height" = some v2 → SizeIn news m X Y ok) (htc : ColIs news vk kc) (hbc : ColIs news vb bc) (cs1 : ColSpec cl g kc) (cs2 : ColSpec gr g bc) (q3 : m "palette" = some (.ref lp)) (hlp : (lp, W.listOf ps.toArray np) ∈ news) (hpa : PalAre news ps es0) (hpl : ps.length ≤ 300) (hel : ∀ e ∈ es0, e.length ≤ 8) (hbn : bc = .no) (hrf : rf = true ↔ ¬ ((ok ∧ 0 < X ∧ 0 < Y ∧ X ≤ 2147483647 ∧ Y ≤ 2147483647 ∧ (al = true → kc = .no) ∧ (∀ q ∈ [qz], 1 ≤ q ∧ q ≤ 16)) ∧ PalGood es0 ∧ (qz = 1 ∨ qz = 2 ∨ qz = 4 ∨ qz = 8) ∧ kc = .no ∧ al = false ∧ g = false)) (ret : ∀ m' h' tk', Fr h₀ L h' m' → Q (.ret (.bool true)) { s with heap := h', toks := tk' }) :
    wpAny (model rw_ar0036_02.row.prog w) ((Fa dp un (some []) []).deeper (envOfC nm (fnScope 34) L fa cd)) (execs [fnAt 34 24, fnAt 34 25, fnAt 34 26, fnAt 34 27, fnAt 34 28, fnAt 34 29, fnAt 34 30, fnAt 34 31, fnAt 34 32] (envOfC nm (fnScope 34) L fa cd)) Q (Out w ((Fa dp un (some []) []).deeper (envOfC nm (fnScope 34) L fa cd)) (envOfC nm (fnScope 34) L fa cd) R) s := by
  obtain ⟨ts, es⟩ := V.said
  obtain ⟨tw, ew⟩ := V.wide
  obtain ⟨th, eh⟩ := V.high
  obtain ⟨tp, ep⟩ := V.planes
  have aft : ((ok ∧ 0 < X ∧ 0 < Y ∧ X ≤ 2147483647 ∧ Y ≤ 2147483647 ∧ (al = true → kc = .no) ∧ (∀ q ∈ [qz], 1 ≤ q ∧ q ≤ 16)) ∧ PalGood es0 ∧ (qz = 1 ∨ qz = 2 ∨ qz = 4 ∨ qz = 8) ∧ kc = .no ∧ al = false ∧ g = false) → ∀ x h' tk' nw l2 k2, (l2, W.listOf ps.toArray k2) ∈ nw → (∀ p ∈ news, p ∈ nw) → Made w nw x X Y lc false al true [qz] qz 1 1 kc bc (.ref l2) → Fr h₀ L h' (fun y => if y = "writer" then some (.ref x) else m y) → News h₀ L h' nw → wpAny (model rw_ar0036_02.row.prog w) ((Fa dp un (some []) []).deeper (envOfC nm (fnScope 34) L fa cd)) (execs [fnAt 34 25, fnAt 34 26, fnAt 34 27, fnAt 34 28, fnAt 34 29, fnAt 34 30, fnAt 34 31, fnAt 34 32] (envOfC nm (fnScope 34) L fa cd)) Q (Out w ((Fa dp un (some []) []).deeper (envOfC nm (fnScope 34) L fa cd)) (envOfC nm (fnScope 34) L fa cd) R) { s with heap := h', toks := tk' } := by
    intro good x h' tk' nw l2 k2 hl2 sb md F N
    have hrf0 : rf = false := by
      cases hq : rf with
      | false => rfl
      | true => exact absurd good (hrf.mp hq)
    subst hrf0
    have ea := good.2.2.2.2.1
    have eg := good.2.2.2.2.2
    subst ea eg
    exact law_2_l (its := []) (t2 := tw) (t3 := th) (t4 := tp) (t5 := t5) (t6 := t6) (t7 := t7) (s := { s with heap := h', toks := tk' }) (H.next F N (fun _ h => nomatch h)) md hl2 (sb _ hlp) (hpa.mono sb) (by walk_at "mine see") (by walk_at "mine see") (by walk_at "mine see") (by walk_at "mine see") (sb _ hc3) e3 ((if_neg (by decide)).trans V.alpha) (by walk_at "mine see") (by walk_at "mine see") (by walk_at "mine see") (by walk_at "mine see") (by walk_at "mine see") (by walk_at "mine see") (htc.mono sb) (hbc.mono sb) ((if_neg (by decide)).trans V.grey) (by walk_at "mine see") cs1.2.2.2 cs2.2.2.2 (sb _ hc2) d2 (sb _ hD) ret
  have exc : ¬ ((ok ∧ 0 < X ∧ 0 < Y ∧ X ≤ 2147483647 ∧ Y ≤ 2147483647 ∧ (al = true → kc = .no) ∧ (∀ q ∈ [qz], 1 ≤ q ∧ q ≤ 16)) ∧ PalGood es0 ∧ (qz = 1 ∨ qz = 2 ∨ qz = 4 ∨ qz = 8) ∧ kc = .no ∧ al = false ∧ g = false) → ∀ h' tk', Fr h₀ L h' m → Q (.ret (.bool rf)) { s with heap := h', toks := tk' } := fun bad h' tk' F => by rw [hrf.mpr bad]; exact ret _ h' tk' F
  by_cases hs : sd = 0
  · subst hs
    obtain rfl : g = false := by
      cases hq : g with
      | false => rfl
      | true => have := hg.mp hq; omega
    by_cases h5 : dv.fmod 5 = 0
    · exact wpAny_execs_cons (law_s24DlA (its := []) (qs := []) (sd := 0) H H.Fs hc1 d1 h5 hc2 d2 hwd q0 q1 V.alpha q4 q5 q6 q9 hz (by omega) (by omega) (by omega) (by omega) htc hbc hD (by omega) es q3 hlp hpa hpl hel hbn (fun good x h' tk' nw l2 k2 hl2 sb md F N => aft good x h' tk' nw l2 k2 hl2 sb md F N) fun bad h' tk' F => exc bad h' tk' F)
    · exact wpAny_execs_cons (law_s24DlB (its := []) (qs := []) (sd := 0) H H.Fs hc1 d1 h5 hc2 d2 hwd q0 q1 V.alpha q4 q5 q6 q9 hz (by omega) (by omega) (by omega) (by omega) htc hbc hD (by omega) es q3 hlp hpa hpl hel hbn (fun good x h' tk' nw l2 k2 hl2 sb md F N => aft good x h' tk' nw l2 k2 hl2 sb md F N) fun bad h' tk' F => exc bad h' tk' F)
  · obtain rfl : g = (sd == 1) := by
      cases hq : (sd == 1) with
      | true => exact hg.mpr (by simpa using hq)
      | false =>
        cases g with
        | false => rfl
        | true =>
          have := hg.mp rfl
          simp at hq
          omega
    by_cases h5 : dv.fmod 5 = 0
    · exact wpAny_execs_cons (law_s24GlA (its := []) (qs := []) H H.Fs hc1 d1 h5 hc2 d2 hwd q0 q1 V.alpha q4 q5 q6 q9 hz (by omega) (by omega) (by omega) (by omega) htc hbc hD (by omega) es hs q3 hlp hpa hpl hel hbn (fun good x h' tk' nw l2 k2 hl2 sb md F N => aft good x h' tk' nw l2 k2 hl2 sb md F N) fun bad h' tk' F => exc bad h' tk' F)
    · exact wpAny_execs_cons (law_s24GlB (its := []) (qs := []) H H.Fs hc1 d1 h5 hc2 d2 hwd q0 q1 V.alpha q4 q5 q6 q9 hz (by omega) (by omega) (by omega) (by omega) htc hbc hD (by omega) es hs q3 hlp hpa hpl hel hbn (fun good x h' tk' nw l2 k2 hl2 sb md F N => aft good x h' tk' nw l2 k2 hl2 sb md F N) fun bad h' tk' F => exc bad h' tk' F)
end
end Mine
end
section
theorem Mine.law_pal_7 {w : World} {p : Program} {loose : List Str} {mean : ExcName → Option Value} {mg mb : Str → Option Value}
 {dp un : Nat} {nm : Str} {fa : Addr} {cd : Value} {l : List Env} {h₀ : Heap} {L : Addr} {m : Str → Option Value} {news frs : Mine.Led} {s : Shared} {Q E : Value → Shared → Prop}
 {size number : Int} {t1 t2 t3 : Tok} (H : Mine.Here w h₀ L s.heap m news frs l p loose mean mg mb (Mine.fnScope 34) dp un 10)
 (hs : 1 ≤ size) (hs2 : size ≤ 256) (hn : 0 ≤ number) (hn2 : number ≤ 70000) (hret : ∀ l2 ps n es h' tk' nw, (∀ p ∈ news, p ∈ nw) → (l2, W.listOf ps.toArray n) ∈ nw → Mine.PalAre nw ps es → ps.length ≤ 300 → (∀ e ∈ es, e.length ≤ 8) → (Mine.PalGood es ↔ 7 ≤ 3) → Fr h₀ L h' m → News h₀ L h' nw → Q (.ref l2) { s with heap := h', toks := tk' }) :
 wpAny (model rw_ar0036_02.row.prog w) ((Mine.Fa dp un (some []) l).deeper (envOfC nm (Mine.fnScope 34) L fa cd)) (call (.ref 421) [.int 7 t1, .int size t2, .int number t3]) Q E s := by
 obtain ⟨F, X, N, T, Fs, sub, hk, hdp, hun⟩ := H
 walk_at "mine lit"
 w_on
 w_strict (
  revert X
  k_fill
  intro X
  (refine wpAny_call ?_)
  with_unfolding_all refine' Mine.enterFC (name := "_law_palette") (qual := "_law_palette") (body := Mine.fnStmts 32) (scope := Mine.fnScope 32) (binds := [("form", Value.int 7 t1), ("size", Value.int size t2), ("number", Value.int number t3)]) F X N T Fs sub ?kA ?kf ?kke ?k6 ?k7 ?k8 ?k9 ?kB ?kD ?_ ?c2 ?c3 ?c4
  case kA => exact rfl
  case kf => exact rfl
  case kke => exact hk
  case k6 => k_is
  case k7 => k_is
  case k8 => first | ktr_room | k_room
  case k9 => first | exact BindsTo.of_eq rfl
  case kB => exact rfl
  case kD => decide +kernel
  case c2 => exact rfl
  case c3 => exact rfl
  case c4 => exact rfl
  k_whole
  intro oL' L' h' tk' cells' C' Fs' sub' lt' up' ne' F' N' Y'
  have nex' := Mine.ne_succ lt'
  (repeat (conv in Mine.fnStmts _ => whnf))
  walk_at "mine lit"
  k_cells Y'
  (try simp only [List.cons_append, List.nil_append] at N')
  (try dsimp only)
  (try k_lt lt')
  k_steps)
 
 all_goals first | exact (Str.ofString "") | exact (0 : Nat) | exact Value.none | skip
 all_goals (refine' hret _ [] _ [] _ _ _ ?b ?y1 .nil (by decide) (fun _ h => nomatch h) ⟨fun h => absurd h.1 (by decide), fun h => absurd h (by decide)⟩ ?F ?N; (case F => assumption); (case N => assumption); (case b => walk_at "mine sub2"); (case y1 => exact .head _))
end
section
local macro_rules | `(tactic| walk_at $s:str) => Mine.hand "i86 " s
theorem Mine.k45 : True := by
 k_with "i86 binaryOp Mult ref int" => ((k_here; (with_reducible show wpAny _ _ (binaryOp Operator.Mult (Value.ref _) (Value.int _ _)) _ _ _); k_dflt (refine' Mine.mul_one ?Fm72q ?N72q ?y672q ?y772q ?y872q ?_; (case Fm72q => k_asm); (case N72q => k_asm); (case y672q => k_mem); (case y772q => first | omega | decide); (case y872q => first | omega | decide); k_whole); intro D'72q h'72q F'72q N'72q l172q; (try k_lt l172q); (try k_sweep)))
 trivial
theorem Mine.law_pal_8 {w : World} {p : Program} {loose : List Str} {mean : ExcName → Option Value} {mg mb : Str → Option Value}
 {dp un : Nat} {nm : Str} {fa : Addr} {cd : Value} {l : List Env} {h₀ : Heap} {L : Addr} {m : Str → Option Value} {news frs : Mine.Led} {s : Shared} {Q E : Value → Shared → Prop}
 {size number : Int} {t1 t2 t3 : Tok} (H : Mine.Here w h₀ L s.heap m news frs l p loose mean mg mb (Mine.fnScope 34) dp un 10)
 (hs : 1 ≤ size) (hs2 : size ≤ 256) (hn : 0 ≤ number) (hn2 : number ≤ 70000) (hret : ∀ l2 ps n es h' tk' nw, (∀ p ∈ news, p ∈ nw) → (l2, W.listOf ps.toArray n) ∈ nw → Mine.PalAre nw ps es → ps.length ≤ 300 → (∀ e ∈ es, e.length ≤ 8) → (Mine.PalGood es ↔ 8 ≤ 3) → Fr h₀ L h' m → News h₀ L h' nw → Q (.ref l2) { s with heap := h', toks := tk' }) :
 wpAny (model rw_ar0036_02.row.prog w) ((Mine.Fa dp un (some []) l).deeper (envOfC nm (Mine.fnScope 34) L fa cd)) (call (.ref 421) [.int 8 t1, .int size t2, .int number t3]) Q E s := by
 obtain ⟨F, X, N, T, Fs, sub, hk, hdp, hun⟩ := H
 walk_at "mine lit"
 w_on
 w_strict (
  revert X
  k_fill
  intro X
  (refine wpAny_call ?_)
  with_unfolding_all refine' Mine.enterFC (name := "_law_palette") (qual := "_law_palette") (body := Mine.fnStmts 32) (scope := Mine.fnScope 32) (binds := [("form", Value.int 8 t1), ("size", Value.int size t2), ("number", Value.int number t3)]) F X N T Fs sub ?kA ?kf ?kke ?k6 ?k7 ?k8 ?k9 ?kB ?kD ?_ ?c2 ?c3 ?c4
  case kA => exact rfl
  case kf => exact rfl
  case kke => exact hk
  case k6 => k_is
  case k7 => k_is
  case k8 => first | ktr_room | k_room
  case k9 => first | exact BindsTo.of_eq rfl
  case kB => exact rfl
  case kD => decide +kernel
  case c2 => exact rfl
  case c3 => exact rfl
  case c4 => exact rfl
  k_whole
  intro oL' L' h' tk' cells' C' Fs' sub' lt' up' ne' F' N' Y'
  have nex' := Mine.ne_succ lt'
  (repeat (conv in Mine.fnStmts _ => whnf))
  walk_at "mine lit"
  k_cells Y'
  (try simp only [List.cons_append, List.nil_append] at N')
  (try dsimp only)
  (try k_lt lt')
  k_steps)
 
 all_goals first | exact (Str.ofString "") | exact (0 : Nat) | exact Value.none | skip
 all_goals (refine' hret _ (List.replicate 257 _) _ (List.replicate 257 [1, 2, 3]) _ _ _ ?b ?y1 ?y2 ?y3 ?y4 ?y5 ?F ?N; (case F => assumption); (case N => assumption); (case b => walk_at "mine sub2"); (case y1 => exact .head _); (case y2 => exact Mine.pal_rep (.tail _ (.tail _ (.head _))) (.cons _ _ (.cons _ _ (.cons _ _ .nil))) 257); (case y3 => rw [List.length_replicate]; decide); (case y4 => intro e he; rw [List.eq_of_mem_replicate he]; decide); (case y5 => exact ⟨fun h => absurd h.2.1 (by rw [List.length_replicate]; decide), fun h => absurd h (by decide)⟩))
end
section
theorem Mine.law_pal_n {w : World} {p : Program} {loose : List Str} {mean : ExcName → Option Value} {mg mb : Str → Option Value}
 {dp un : Nat} {nm : Str} {fa : Addr} {cd : Value} {l : List Env} {h₀ : Heap} {L : Addr} {m : Str → Option Value} {news frs : Mine.Led} {s : Shared} {Q E : Value → Shared → Prop}
 {form size number : Int} {t1 t2 t3 : Tok} (H : Mine.Here w h₀ L s.heap m news frs l p loose mean mg mb (Mine.fnScope 34) dp un 10)
 (hf : form < 2) (hret : ∀ h' tk' nw, (∀ p ∈ news, p ∈ nw) → Fr h₀ L h' m → News h₀ L h' nw → Q .none { s with heap := h', toks := tk' }) :
 wpAny (model rw_ar0036_02.row.prog w) ((Mine.Fa dp un (some []) l).deeper (envOfC nm (Mine.fnScope 34) L fa cd)) (call (.ref 421) [.int form t1, .int size t2, .int number t3]) Q E s := by
 obtain ⟨F, X, N, T, Fs, sub, hk, hdp, hun⟩ := H
 walk_at "mine lit"
 w_on
 w_strict (
  revert X
  k_fill
  intro X
  (refine wpAny_call ?_)
  with_unfolding_all refine' Mine.enterFC (name := "_law_palette") (qual := "_law_palette") (body := Mine.fnStmts 32) (scope := Mine.fnScope 32) (binds := [("form", Value.int form t1), ("size", Value.int size t2), ("number", Value.int number t3)]) F X N T Fs sub ?kA ?kf ?kke ?k6 ?k7 ?k8 ?k9 ?kB ?kD ?_ ?c2 ?c3 ?c4
  case kA => exact rfl
  case kf => exact rfl
  case kke => exact hk
  case k6 => k_is
  case k7 => k_is
  case k8 => first | ktr_room | k_room
  case k9 => first | exact BindsTo.of_eq rfl
  case kB => exact rfl
  case kD => decide +kernel
  case c2 => exact rfl
  case c3 => exact rfl
  case c4 => exact rfl
  k_whole
  intro oL' L' h' tk' cells' C' Fs' sub' lt' up' ne' F' N' Y'
  have nex' := Mine.ne_succ lt'
  (repeat (conv in Mine.fnStmts _ => whnf))
  walk_at "mine lit"
  k_cells Y'
  (try simp only [List.cons_append, List.nil_append] at N')
  (try dsimp only)
  (try k_lt lt')
  k_steps)
 
 all_goals first | exact (Str.ofString "") | exact (0 : Nat) | exact Value.none | skip
 all_goals (refine' hret _ _ _ ?b ?F ?N; (case F => assumption); (case N => assumption); (case b => walk_at "mine sub2"))
end
section
variable {w : World} {p : Program} {loose : List Str} {mean : ExcName → Option Value} {mg mb : Str → Option Value}
variable {dp un : Nat} {nm : Str} {fa : Addr} {cd : Value} {l : List Env} {h₀ : Heap} {L : Addr} {m : Str → Option Value} {news frs : Mine.Led} {s : Shared} {Q : Flow → Shared → Prop} {R : Result → Shared → Prop}
local macro_rules | `(tactic| walk_at $s:str) => Mine.hand "i88 " s
local macro_rules | `(tactic| walk_at "p") => Mine.pad
theorem Mine.k46 : True := by
 k_with "i88 binaryOp Pow int int" => ((k_here; (with_reducible show wpAny _ _ (binaryOp _ _ (Value.int 32 _)) _ _ _); k_dflt (refine' Mine.pow32 ?hB ?_; (case hB => assumption))))
 k_with "i88 binaryOp Pow int int" => ((k_here; (with_reducible show wpAny _ _ (binaryOp _ _ (Value.int 31 _)) _ _ _); k_dflt (refine' Mine.pow31 ?hB ?_; (case hB => assumption))))
 trivial
namespace Mine
theorem law_pal
  {dp un : Nat} {nm : Str} {fa : Addr} {cd : Value} {l : List Env} {h₀ : Heap} {L : Addr} {m : Str → Option Value} {news frs : Mine.Led} {s : Shared} {Q E : Value → Shared → Prop} {form size number : Int} {t1 t2 t3 : Tok} (H : Mine.Here w h₀ L s.heap m news frs l p loose mean mg mb (Mine.fnScope 34) dp un 10) (hf : 2 ≤ form) (hf8 : form ≤ 8)
  (hs : 1 ≤ size) (hs2 : size ≤ 256) (hn : 0 ≤ number) (hn2 : number ≤ 70000) (hret : ∀ l2 ps n es h' tk' nw, (∀ p ∈ news, p ∈ nw) → (l2, W.listOf ps.toArray n) ∈ nw → Mine.PalAre nw ps es → ps.length ≤ 300 → (∀ e ∈ es, e.length ≤ 8) → (Mine.PalGood es ↔ form ≤ 3) → Fr h₀ L h' m → News h₀ L h' nw → Q (.ref l2) { s with heap := h', toks := tk' }) :
  wpAny (model rw_ar0036_02.row.prog w) ((Mine.Fa dp un (some []) l).deeper (envOfC nm (Mine.fnScope 34) L fa cd)) (call (.ref 421) [.int form t1, .int size t2, .int number t3]) Q E s := by
  have : form = 2 ∨ form = 3 ∨ form = 4 ∨ form = 5 ∨ form = 6 ∨ form = 7 ∨ form = 8 := by omega
  rcases this with rfl | rfl | rfl | rfl | rfl | rfl | rfl
  · exact law_pal_2 H hs hs2 hn hn2 fun l2 ps n es h' tk' nw a b c d e g => hret l2 ps n es h' tk' nw a b c d e (g.trans (by decide))
  · exact law_pal_3 H hs hs2 hn hn2 fun l2 ps n es h' tk' nw a b c d e g => hret l2 ps n es h' tk' nw a b c d e (g.trans (by decide))
  · exact law_pal_4 H hs hs2 hn hn2 fun l2 ps n es h' tk' nw a b c d e g => hret l2 ps n es h' tk' nw a b c d e (g.trans (by decide))
  · exact law_pal_5 H hs hs2 hn hn2 fun l2 ps n es h' tk' nw a b c d e g => hret l2 ps n es h' tk' nw a b c d e (g.trans (by decide))
  · exact law_pal_6 H hs hs2 hn hn2 fun l2 ps n es h' tk' nw a b c d e g => hret l2 ps n es h' tk' nw a b c d e (g.trans (by decide))
  · exact law_pal_7 H hs hs2 hn hn2 fun l2 ps n es h' tk' nw a b c d e g => hret l2 ps n es h' tk' nw a b c d e (g.trans (by decide))
  · exact law_pal_8 H hs hs2 hn hn2 fun l2 ps n es h' tk' nw a b c d e g => hret l2 ps n es h' tk' nw a b c d e (g.trans (by decide))
theorem any4 {q : Int} (h : ([1, 2, 4, 8].any fun x => x == q) = true) : q = 1 ∨ q = 2 ∨ q = 4 ∨ q = 8 := by
  simp only [List.any_cons, List.any_nil, Bool.or_false, Bool.or_eq_true, beq_iff_eq] at h
  omega
theorem pow_8 {prog : Program} {w : World} {A : Around} {E : Value → Shared → Prop} {s : Shared} {e : Int} {t u : Tok} {Q : Value → Shared → Prop} (h0 : e = 1 ∨ e = 2 ∨ e = 4 ∨ e = 8)
    (h : ∀ v, 2 ≤ v → v ≤ 256 → Q (.int v s.toks) { s with toks := s.toks + 1 }) : wpAny (model prog w) A (binaryOp .Pow (.int 2 t) (.int e u)) Q E s := by
  have b : 2 ≤ (2 : Int) ^ e.toNat ∧ (2 : Int) ^ e.toNat ≤ 256 := by
    rcases h0 with h | h | h | h <;> rw [h] <;> decide
  exact pow_int_small (by omega) (by omega) (by decide) (h _ b.1 b.2)
end Mine
theorem Mine.k47 : True := by
 k_with "i88 binaryOp Pow int int" => ((k_here; (with_reducible show wpAny _ _ (binaryOp _ (Value.int _ _) (Value.int q _)) _ _ _); k_dflt (refine' Mine.pow_8 ?zw1 ?_; (case zw1 => exact Mine.any4 (by assumption))); intro v' p1' p2'))
 k_with "i88 call ref" => ((k_here; (with_reducible show wpAny _ _ (call (Value.ref 421) _) _ _ _); k_dflt (first | (refine' Mine.law_pal_n ?zvH ?zvf ?_; (case zvH => walk_at "mine here"); (case zvf => assumption); intro h' tk' nw' sub2' F' N') | (refine' Mine.law_pal ?zvH ?zvf ?zvf8 ?zvs ?zvs2 ?zvn ?zvn2 ?_; (case zvH => walk_at "mine here"); (case zvf => assumption); (case zvf8 => assumption); (case zvs => first | omega | (have q9 := Mine.fmB (z := number) (k := v') (by omega); omega) | (have q9 := Mine.fmB (z := number) (k := 2) (by omega); omega)); (case zvs2 => first | omega | (have q9 := Mine.fmB (z := number) (k := v') (by omega); omega) | (have q9 := Mine.fmB (z := number) (k := 2) (by omega); omega)); (case zvn => assumption); (case zvn2 => assumption); intro l2' ps' n' es' h' tk' nw' sub2' hl2' pa' pl' el' pg' F' N'))))
 k_with "i88 call ref" => ((k_here; (with_reducible show wpAny _ _ (call (Value.ref 428) _) _ _ _); k_dflt (refine' Mine.law_col ?zvH ?zvn ?zvn2 ?zvt ?zvt2 ?_; (case zvH => walk_at "mine here"); (case zvn => first | assumption | omega); (case zvn2 => first | assumption | omega); (case zvt => assumption); (case zvt2 => assumption)); intro v' c' h' tk' nw' sub2' ci' cs' F' N'))
 k_with "i88 subscriptTail" => ((k_here; (with_reducible show wpAny _ _ (subscriptTail _ _ (Value.ref _) (Value.int _ _)) _ _ _); k_dflt (refine' Mine.item_lst ?N ?m ?y0 ?y1 ?x ?_ ?hs; (case N => k_asm); (case m => walk_at "mine mem"); (case y0 => decide); (case y1 => decide); (case x => rfl); (case hs => with_unfolding_all rfl); k_whole)))
 trivial
theorem Mine.law_s11n
 {oc2 : Obj} {D : Addr} {its : List Value} {q : Int} {uq : Tok} {k : Nat} {form number : Int} {t1 t2 : Tok}  (H : Mine.Here w h₀ L s.heap m news frs l p loose mean mg mb (Mine.fnScope 34) dp un 40)
 (hc2 : (L + 1 + 1, oc2) ∈ news) (hoc2 : oc2.data = .cell (some (.ref D))) (hD : (D, W.listOf (Value.int q uq :: its).toArray k) ∈ news) (v1 : m "form" = some (.int form t1)) (v2 : m "number" = some (.int number t2)) (hn : 0 ≤ number) (hn2 : number ≤ 70000) (hf : form < 2) (hret : ∀ h' tk' nw, (∀ p ∈ news, p ∈ nw) → Fr h₀ L h' (fun y => if y = "palette" then some .none else m y) → News h₀ L h' nw → Q .next { s with heap := h', toks := tk' }) :
 wpAny (model rw_ar0036_02.row.prog w) ((Mine.Fa dp un (some []) l).deeper (envOfC nm (Mine.fnScope 34) L fa cd)) (exec (Mine.fnAt 34 11) (envOfC nm (Mine.fnScope 34) L fa cd)) Q (Mine.Out w ((Mine.Fa dp un (some []) l).deeper (envOfC nm (Mine.fnScope 34) L fa cd)) (envOfC nm (Mine.fnScope 34) L fa cd) R) s := by
 obtain ⟨F, X, N, T, Fs, sub, hk, hdp, hun⟩ := H
 (conv => arg 3; arg 1; whnf)
 walk_at "mine lit"
 w_on
 w_strict (
  revert X
  k_fill
  intro X
  
  k_steps)
 all_goals first | exact (Str.ofString "") | exact (0 : Nat) | exact Value.none | skip
 all_goals (refine' hret _ _ _ ?b ?F ?N; (case F => assumption); (case N => assumption); (case b => first | exact sub2' | exact fun p hp => sub2' p (.tail _ hp) | exact fun p hp => sub2' p (.tail _ (.tail _ hp))))
theorem Mine.law_s11l
 {oc2 : Obj} {D : Addr} {its : List Value} {q : Int} {uq : Tok} {k : Nat} {form number : Int} {t1 t2 : Tok}  (H : Mine.Here w h₀ L s.heap m news frs l p loose mean mg mb (Mine.fnScope 34) dp un 40)
 (hc2 : (L + 1 + 1, oc2) ∈ news) (hoc2 : oc2.data = .cell (some (.ref D))) (hD : (D, W.listOf (Value.int q uq :: its).toArray k) ∈ news) (v1 : m "form" = some (.int form t1)) (v2 : m "number" = some (.int number t2)) (hn : 0 ≤ number) (hn2 : number ≤ 70000) (hf : 2 ≤ form) (hf8 : form ≤ 8) (hret : ∀ l2 ps n es h' tk' nw, (∀ p ∈ news, p ∈ nw) → (l2, W.listOf ps.toArray n) ∈ nw → Mine.PalAre nw ps es → ps.length ≤ 300 → (∀ e ∈ es, e.length ≤ 8) → (Mine.PalGood es ↔ form ≤ 3) → Fr h₀ L h' (fun y => if y = "palette" then some (.ref l2) else m y) → News h₀ L h' nw → Q .next { s with heap := h', toks := tk' }) :
 wpAny (model rw_ar0036_02.row.prog w) ((Mine.Fa dp un (some []) l).deeper (envOfC nm (Mine.fnScope 34) L fa cd)) (exec (Mine.fnAt 34 11) (envOfC nm (Mine.fnScope 34) L fa cd)) Q (Mine.Out w ((Mine.Fa dp un (some []) l).deeper (envOfC nm (Mine.fnScope 34) L fa cd)) (envOfC nm (Mine.fnScope 34) L fa cd) R) s := by
 obtain ⟨F, X, N, T, Fs, sub, hk, hdp, hun⟩ := H
 (conv => arg 3; arg 1; whnf)
 walk_at "mine lit"
 w_on
 w_strict (
  revert X
  k_fill
  intro X
  
  k_steps)
 all_goals first | exact (Str.ofString "") | exact (0 : Nat) | exact Value.none | skip
 all_goals (refine' hret _ _ _ _ _ _ _ ?b ?y1 ?y2 ?y3 ?y4 ?y5 ?F ?N; (case F => assumption); (case N => assumption); (case b => first | exact sub2' | exact fun p hp => sub2' p (.tail _ hp) | exact fun p hp => sub2' p (.tail _ (.tail _ hp))); (case y1 => assumption); (case y2 => assumption); (case y3 => assumption); (case y4 => assumption); (case y5 => assumption))
theorem Mine.law_s16
 {form number top : Int} {t1 t2 t4 : Tok} {grey : Bool} (H : Mine.Here w h₀ L s.heap m news frs l p loose mean mg mb (Mine.fnScope 34) dp un 40)
 (v1 : m "clear" = some (.int form t1)) (v2 : m "number" = some (.int number t2)) (v3 : m "grey" = some (.bool grey)) (v4 : m "top" = some (.int top t4)) (hn : 0 ≤ number) (hn2 : number ≤ 70000) (ht : 2 ≤ top) (ht2 : top ≤ 1000000) (hret : ∀ v c h' tk' nw, (∀ p ∈ news, p ∈ nw) → Mine.ColIs nw v c → Mine.ColSpec form grey c → Fr h₀ L h' (fun y => if y = "key" then some v else m y) → News h₀ L h' nw → Q .next { s with heap := h', toks := tk' }) :
 wpAny (model rw_ar0036_02.row.prog w) ((Mine.Fa dp un (some []) l).deeper (envOfC nm (Mine.fnScope 34) L fa cd)) (exec (Mine.fnAt 34 16) (envOfC nm (Mine.fnScope 34) L fa cd)) Q (Mine.Out w ((Mine.Fa dp un (some []) l).deeper (envOfC nm (Mine.fnScope 34) L fa cd)) (envOfC nm (Mine.fnScope 34) L fa cd) R) s := by
 obtain ⟨F, X, N, T, Fs, sub, hk, hdp, hun⟩ := H
 (conv => arg 3; arg 1; whnf)
 walk_at "mine lit"
 w_on
 w_strict (
  revert X
  k_fill
  intro X
  
  k_steps)
 all_goals first | exact (Str.ofString "") | exact (0 : Nat) | exact Value.none | skip
 all_goals (refine' hret _ _ _ _ _ ?b ?y1 ?y2 ?F ?N; (case F => assumption); (case N => assumption); (case b => first | exact sub2' | exact fun p hp => sub2' p (.tail _ hp) | exact fun p hp => sub2' p (.tail _ (.tail _ hp))); (case y1 => assumption); (case y2 => assumption))
theorem Mine.law_s17
 {form number top : Int} {t1 t2 t4 : Tok} {grey : Bool} (H : Mine.Here w h₀ L s.heap m news frs l p loose mean mg mb (Mine.fnScope 34) dp un 40)
 (v1 : m "ground" = some (.int form t1)) (v2 : m "number" = some (.int number t2)) (v3 : m "grey" = some (.bool grey)) (v4 : m "top" = some (.int top t4)) (hn : 0 ≤ number) (hn2 : number ≤ 70000) (ht : 2 ≤ top) (ht2 : top ≤ 1000000) (hret : ∀ v c h' tk' nw, (∀ p ∈ news, p ∈ nw) → Mine.ColIs nw v c → Mine.ColSpec form grey c → Fr h₀ L h' (fun y => if y = "back" then some v else m y) → News h₀ L h' nw → Q .next { s with heap := h', toks := tk' }) :
 wpAny (model rw_ar0036_02.row.prog w) ((Mine.Fa dp un (some []) l).deeper (envOfC nm (Mine.fnScope 34) L fa cd)) (exec (Mine.fnAt 34 17) (envOfC nm (Mine.fnScope 34) L fa cd)) Q (Mine.Out w ((Mine.Fa dp un (some []) l).deeper (envOfC nm (Mine.fnScope 34) L fa cd)) (envOfC nm (Mine.fnScope 34) L fa cd) R) s := by
 obtain ⟨F, X, N, T, Fs, sub, hk, hdp, hun⟩ := H
 (conv => arg 3; arg 1; whnf)
 walk_at "mine lit"
 w_on
 w_strict (
  revert X
  k_fill
  intro X
  
  k_steps)
 all_goals first | exact (Str.ofString "") | exact (0 : Nat) | exact Value.none | skip
 all_goals (refine' hret _ _ _ _ _ ?b ?y1 ?y2 ?F ?N; (case F => assumption); (case N => assumption); (case b => first | exact sub2' | exact fun p hp => sub2' p (.tail _ hp) | exact fun p hp => sub2' p (.tail _ (.tail _ hp))); (case y1 => assumption); (case y2 => assumption))
end
section
local macro_rules | `(tactic| walk_at $s:str) => Mine.hand "i89 " s
theorem Mine.k48 : True := by
 k_with "i89 mine keep" => ((intro y73q hy73q; simp only [List.mem_cons, List.not_mem_nil, or_false] at hy73q; rcases hy73q with h | h | h | h | h | h | h | h | h | h <;> subst h <;> (try dsimp only) <;> (repeat (first | refine (if_neg (by decide)).trans ?_ | exact rfl))))
 trivial
namespace Mine
theorem rf_n {md X Y fm cl gr : Int} {al g : Bool} {kc bc : Col} {qs : List Int} {ok : Prop} (hok : ok ↔ md ≤ 2) (hfm : fm < 2) (cs1 : ColSpec cl g kc) (cs2 : ColSpec gr g bc) : ((2 < md ∨ X ≤ 0 ∨ Y ≤ 0 ∨ 2147483648 ≤ X ∨ 2147483648 ≤ Y) ∨ (∃ q ∈ qs, q < 1) ∨ (∃ q ∈ qs, 16 < q) ∨ (al = true ∧ kc ≠ .no) ∨ 3 < fm ∨ (cl = 3 ∨ cl = 4) ∨ (gr = 3 ∨ gr = 4)) ↔ ¬ ((ok ∧ 0 < X ∧ 0 < Y ∧ X ≤ 2147483647 ∧ Y ≤ 2147483647 ∧ (al = true → kc = .no) ∧ (∀ q ∈ qs, 1 ≤ q ∧ q ≤ 16)) ∧ ColGood g kc ∧ ColGood g bc) := by
  constructor
  · rintro h ⟨⟨ho, a1, a2, a3, a4, a5, a6⟩, c1, c2⟩
    have ho2 := hok.mp ho
    have d1 := cs1.2.2.1.mp c1
    have d2 := cs2.2.2.1.mp c2
    rcases h with h | ⟨q, hq, h⟩ | ⟨q, hq, h⟩ | ⟨h, h'⟩ | h | h | h
    · omega
    · have := a6 q hq; omega
    · have := a6 q hq; omega
    · exact h' (a5 h)
    · omega
    · omega
    · omega
  · intro bad
    refine Classical.byContradiction fun hn => bad ?_
    simp only [not_or] at hn
    obtain ⟨⟨n1, n2, n3, n4, n5⟩, n6, n7, n8, n9, ⟨na, nb⟩, ⟨nc, nd⟩⟩ := hn
    refine ⟨⟨hok.mpr (by omega), by omega, by omega, by omega, by omega, fun h => Classical.byContradiction fun h' => n8 ⟨h, h'⟩, fun q hq => ⟨?_, ?_⟩⟩, cs1.2.2.1.mpr ⟨na, nb⟩, cs2.2.2.1.mpr ⟨nc, nd⟩⟩
    · exact Classical.byContradiction fun h => n6 ⟨q, hq, by omega⟩
    · exact Classical.byContradiction fun h => n7 ⟨q, hq, by omega⟩
theorem rf_l {md X Y fm cl gr qz : Int} {al g : Bool} {kc : Col} {qs : List Int} {ok : Prop} {es0 : List (List Int)} {rf rf2 : Bool} (hok : ok ↔ md ≤ 2) (hpg : PalGood es0 ↔ fm ≤ 3) (hgr : gr = 0) (cs1 : ColSpec cl g kc) (h1 : rf = true ↔ (2 < md ∨ X ≤ 0 ∨ Y ≤ 0 ∨ 2147483648 ≤ X ∨ 2147483648 ≤ Y) ∨ (∃ q ∈ qs, q < 1) ∨ (∃ q ∈ qs, 16 < q) ∨ (al = true ∧ kc ≠ .no) ∨ 3 < fm ∨ (cl = 3 ∨ cl = 4) ∨ (gr = 3 ∨ gr = 4)) (h2 : rf2 = true ↔ rf = true ∨ ¬ (qz = 1 ∨ qz = 2 ∨ qz = 4 ∨ qz = 8) ∨ kc ≠ .no ∨ al = true ∨ g = true) : rf2 = true ↔ ¬ ((ok ∧ 0 < X ∧ 0 < Y ∧ X ≤ 2147483647 ∧ Y ≤ 2147483647 ∧ (al = true → kc = .no) ∧ (∀ q ∈ qs, 1 ≤ q ∧ q ≤ 16)) ∧ PalGood es0 ∧ (qz = 1 ∨ qz = 2 ∨ qz = 4 ∨ qz = 8) ∧ kc = .no ∧ al = false ∧ g = false) := by
  rw [h2, h1]
  constructor
  · rintro h ⟨⟨ho, a1, a2, a3, a4, a5, a6⟩, pg, qq, kn, an, gn⟩
    have ho2 := hok.mp ho
    have pg2 := hpg.mp pg
    have cl2 := cs1.1.mp kn
    rcases h with (h | ⟨q, hq, h⟩ | ⟨q, hq, h⟩ | ⟨h, h'⟩ | h | h | h) | h | h | h | h
    · omega
    · have := a6 q hq; omega
    · have := a6 q hq; omega
    · exact h' (a5 h)
    · omega
    · omega
    · omega
    · exact h qq
    · exact h kn
    · rw [an] at h; cases h
    · rw [gn] at h; cases h
  · intro bad
    refine Classical.byContradiction fun hn => bad ?_
    simp only [not_or] at hn
    obtain ⟨⟨⟨n1, n2, n3, n4, n5⟩, n6, n7, n8, n9, ⟨na, nb⟩, ⟨nc, nd⟩⟩, m1, m2, m3, m4⟩ := hn
    refine ⟨⟨hok.mpr (by omega), by omega, by omega, by omega, by omega, fun h => Classical.byContradiction fun h' => n8 ⟨h, h'⟩, fun q hq => ⟨?_, ?_⟩⟩, hpg.mpr (by omega), Classical.byContradiction fun h => m1 (by omega), Classical.byContradiction m2, by simpa using m3, by simpa using m4⟩
    · exact Classical.byContradiction fun h => n6 ⟨q, hq, by omega⟩
    · exact Classical.byContradiction fun h => n7 ⟨q, hq, by omega⟩
section
variable {w : World} {p : Program} {loose : List Str} {mean : ExcName → Option Value} {mg mb : Str → Option Value} {dp un : Nat} {nm : Str} {fa : Addr} {cd : Value} {h₀ : Heap} {L : Addr} {m : Str → Option Value} {news : Led} {s : Shared} {Q : Flow → Shared → Prop} {R : Result → Shared → Prop} {rest : List Stmt}
theorem law_m_n {ls : Addr} {md X Y sd nb fm : Int} {al g : Bool} {pl : Int} {dv : Int} {c3 : Option Value} {oc1 oc2 oc3 : Obj} {td : Tok} {D : Addr} {dits : List Value} {k : Nat} {its : List Value} {zs : List Int} (H : Here w h₀ L s.heap m news [] [] p loose mean mg mb (fnScope 34) dp un 40) (V : Vars m ls md X Y sd nb fm al g pl) (hl : h₀.IsList ls its.toArray) (hi : IntsAre its zs) (hsz : its.toArray.size ≤ 63) (hsy : its.length ≤ 63) (hsx : zs.length ≤ 63) (a0 : 0 ≤ md) (a1 : md < 5) (x0 : -3 ≤ X) (x1 : X ≤ 4294967292) (y0 : -3 ≤ Y) (y1 : Y ≤ 4294967292) (s0 : 0 ≤ sd) (n0 : 0 ≤ nb) (n1 : nb < 70000) (f8 : fm < 9) (hg : g = true ↔ sd = 1 ∨ (sd = 0 ∧ fm < 2)) (hpl : pl = if 1 < fm then 1 else (if g then 1 else 3) + (if al then 1 else 0)) (hc1 : (L + 1, oc1) ∈ news) (d1 : oc1.data = .cell (some (.int dv td))) (hc2 : (L + 1 + 1, oc2) ∈ news) (d2 : oc2.data = .cell (some (.ref D))) (hc3 : (L + 1 + 1 + 1, oc3) ∈ news) (e3 : oc3.data = .cell c3) (hD : (D, W.listOf dits.toArray k) ∈ news) (hdi : IntsAre dits (depOf dv pl)) (hfm : fm < 2) (ret : ∀ m' h' tk', Fr h₀ L h' m' → Q (.ret (.bool true)) { s with heap := h', toks := tk' }) :
    wpAny (model rw_ar0036_02.row.prog w) ((Fa dp un (some []) []).deeper (envOfC nm (fnScope 34) L fa cd)) (execs [fnAt 34 11, fnAt 34 12, fnAt 34 13, fnAt 34 14, fnAt 34 15, fnAt 34 16, fnAt 34 17, fnAt 34 18, fnAt 34 19, fnAt 34 20, fnAt 34 21, fnAt 34 22, fnAt 34 23, fnAt 34 24, fnAt 34 25, fnAt 34 26, fnAt 34 27, fnAt 34 28, fnAt 34 29, fnAt 34 30, fnAt 34 31, fnAt 34 32] (envOfC nm (fnScope 34) L fa cd)) Q (Out w ((Fa dp un (some []) []).deeper (envOfC nm (fnScope 34) L fa cd)) (envOfC nm (fnScope 34) L fa cd) R) s := by
  obtain ⟨tf, ef⟩ := V.form
  obtain ⟨tn, en⟩ := V.number
  have hp14 : 1 ≤ pl ∧ pl ≤ 4 := by rw [hpl]; split <;> cases g <;> cases al <;> decide
  have hlen := depOf_len (dv := dv) (pl := pl)
  have hil := hdi.length
  have hl4 : (depOf dv pl).length ≤ 4 := by omega
  have hl1 : 0 < (depOf dv pl).length := by omega
  have hd4 : dits.length ≤ 4 := by omega
  have hd1 : 0 < dits.length := by omega
  obtain ⟨qz, uz, its', qs', rfl, eqs, hr⟩ := ints_one hdi hl1
  refine wpAny_execs_cons (law_s11n H hc2 d2 hD ef en n0 (by omega) hfm fun h1 tk1 nw1 sb1 F1 N1 => ?_)
  have H1 := H.next F1 N1 (fun _ h => nomatch h)
  refine wpAny_execs_cons (law_s12 (s := { s with heap := h1, toks := tk1 }) H1 hl hi hsz hsy hsx ((if_neg (by decide)).trans (V.script)) fun cl t6 h2 tk2 cl0 cl1 F2 N2 => ?_)
  have H2 := H1.now F2 N2
  refine wpAny_execs_cons (law_s13n (s := { s with heap := h2, toks := tk2 }) H2 hl hi hsz hsy hsx ((if_neg (by decide)).trans ((if_neg (by decide)).trans (V.script))) (by walk_at "mine see") fun gr t7 h3 tk3 gr0 gr1 F3 N3 => ?_)
  have H3 := H2.now F3 N3
  refine wpAny_execs_cons (law_s14 (s := { s with heap := h3, toks := tk3 }) H3 hl hi hsz hsy hsx ((if_neg (by decide)).trans ((if_neg (by decide)).trans ((if_neg (by decide)).trans (V.script)))) fun lc t5 h4 tk4 lc0 lc1 F4 N4 => ?_)
  have H4 := H3.now F4 N4
  refine wpAny_execs_cons (law_s15 (s := { s with heap := h4, toks := tk4 }) H4 (sb1 _ hc2) d2 (sb1 _ hD) hdi hd4 hd1 hl4 hl1 depOf_bd fun top t8 h5 tk5 p0 p1 F5 N5 => ?_)
  have H5 := H4.now F5 N5
  refine wpAny_execs_cons (law_s16 (form := cl) (number := nb) (top := top) (grey := g) (t1 := t6) (t2 := tn) (t4 := t8) (s := { s with heap := h5, toks := tk5 }) H5 (by walk_at "mine see") ((if_neg (by decide)).trans ((if_neg (by decide)).trans ((if_neg (by decide)).trans ((if_neg (by decide)).trans ((if_neg (by decide)).trans (en)))))) ((if_neg (by decide)).trans ((if_neg (by decide)).trans ((if_neg (by decide)).trans ((if_neg (by decide)).trans ((if_neg (by decide)).trans (V.grey)))))) (by walk_at "mine see") n0 (by omega) p0 p1 fun vk kc h6 tk6 nw6 sb6 ck cs1 F6 N6 => ?_)
  have H6 := H5.next F6 N6 (fun _ h => nomatch h)
  refine wpAny_execs_cons (law_s17 (form := gr) (number := nb) (top := top) (grey := g) (t1 := t7) (t2 := tn) (t4 := t8) (s := { s with heap := h6, toks := tk6 }) H6 (by walk_at "mine see") ((if_neg (by decide)).trans ((if_neg (by decide)).trans ((if_neg (by decide)).trans ((if_neg (by decide)).trans ((if_neg (by decide)).trans ((if_neg (by decide)).trans (en))))))) ((if_neg (by decide)).trans ((if_neg (by decide)).trans ((if_neg (by decide)).trans ((if_neg (by decide)).trans ((if_neg (by decide)).trans ((if_neg (by decide)).trans (V.grey))))))) (by walk_at "mine see") n0 (by omega) p0 p1 fun vb bc h7 tk7 nw7 sb7 cb cs2 F7 N7 => ?_)
  have H7 := H6.next F7 N7 (fun _ h => nomatch h)
  have V7 := V.keep (m' := _) (show ∀ y ∈ (["script", "mode", "wide", "high", "said", "alpha", "number", "form", "grey", "planes"] : List PySem.Str), (fun y : PySem.Str => if y = "back" then some vb else (fun y : PySem.Str => if y = "key" then some vk else (fun y : PySem.Str => if y = "top" then some (Value.int top t8) else (fun y : PySem.Str => if y = "lace" then some (Value.int lc t5) else (fun y : PySem.Str => if y = "ground" then some (Value.int gr t7) else (fun y : PySem.Str => if y = "clear" then some (Value.int cl t6) else (fun y : PySem.Str => if y = "palette" then some Value.none else m y) y) y) y) y) y) y) y = m y by walk_at "mine keep")
  have all : ∀ p ∈ news, p ∈ nw7 := fun p hp => sb7 p (sb6 p (sb1 p hp))
  have u1 : (fun y : PySem.Str => if y = "back" then some vb else (fun y : PySem.Str => if y = "key" then some vk else (fun y : PySem.Str => if y = "top" then some (Value.int top t8) else (fun y : PySem.Str => if y = "lace" then some (Value.int lc t5) else (fun y : PySem.Str => if y = "ground" then some (Value.int gr t7) else (fun y : PySem.Str => if y = "clear" then some (Value.int cl t6) else (fun y : PySem.Str => if y = "palette" then some Value.none else m y) y) y) y) y) y) y) "key" = some vk := by walk_at "mine see"
  have u2 : (fun y : PySem.Str => if y = "back" then some vb else (fun y : PySem.Str => if y = "key" then some vk else (fun y : PySem.Str => if y = "top" then some (Value.int top t8) else (fun y : PySem.Str => if y = "lace" then some (Value.int lc t5) else (fun y : PySem.Str => if y = "ground" then some (Value.int gr t7) else (fun y : PySem.Str => if y = "clear" then some (Value.int cl t6) else (fun y : PySem.Str => if y = "palette" then some Value.none else m y) y) y) y) y) y) y) "back" = some vb := by walk_at "mine see"
  generalize em : (fun y : PySem.Str => if y = "back" then some vb else (fun y : PySem.Str => if y = "key" then some vk else (fun y : PySem.Str => if y = "top" then some (Value.int top t8) else (fun y : PySem.Str => if y = "lace" then some (Value.int lc t5) else (fun y : PySem.Str => if y = "ground" then some (Value.int gr t7) else (fun y : PySem.Str => if y = "clear" then some (Value.int cl t6) else (fun y : PySem.Str => if y = "palette" then some Value.none else m y) y) y) y) y) y) y) = m7 at V7 u1 u2 H7
  have u3 : m7 "palette" = some Value.none := by rw [← em]; walk_at "mine see"
  have u4 : m7 "clear" = some (.int cl t6) := by rw [← em]; walk_at "mine see"
  have u5 : m7 "ground" = some (.int gr t7) := by rw [← em]; walk_at "mine see"
  have u6 : m7 "lace" = some (.int lc t5) := by rw [← em]; walk_at "mine see"
  clear em
  refine law_sz (s := { s with heap := h7, toks := tk7 }) H7 V7 a0 a1 x0 x1 y0 y1 n0 fun vsz v1 v2 wd ok m8 h8 tk8 nw8 hok sb8 hz hwd ew es k8 H8 => ?_
  have V8 := V7.keep (m' := m8) fun y hy => k8 y (by rintro rfl; exact absurd hy (by decide)) (by rintro rfl; exact absurd hy (by decide))
  refine law_rf (cl := cl) (gr := gr) (s := { s with heap := h8, toks := tk8 }) H8 V8 (sb8 _ (all _ hc2)) d2 (sb8 _ (all _ hD)) hdi hd4 hd1 hl4 hl1 depOf_bd ((k8 _ (by decide) (by decide)).trans u1) (ck.mono fun p hp => sb8 p (sb7 p hp)) ⟨t6, (k8 _ (by decide) (by decide)).trans u4⟩ ⟨t7, (k8 _ (by decide) (by decide)).trans u5⟩ fun rf m9 h9 tk9 hrf er k9 H9 => ?_
  have V9 := V8.keep (m' := m9) fun y hy => k9 y (by rintro rfl; exact absurd hy (by decide))
  have kk : ∀ y : PySem.Str, y ≠ "refused" → y ≠ "size" → y ≠ "words" → m9 y = m7 y := fun y b c d => (k9 y b).trans (k8 y c d)
  have all8 : ∀ p ∈ news, p ∈ nw8 := fun p hp => sb8 p (all p hp)
  refine wpAny_execs_cons (law_s23x (s := { s with heap := h9, toks := tk9 }) H9 ((kk _ (by decide) (by decide) (by decide)).trans u3) fun tk10 F10 N10 => ?_)
  exact law_24_n (s := { s with heap := h9, toks := tk10 }) H9 V9 x0 x1 y0 y1 s0 hfm hg (by rw [hpl, if_neg (by omega)]) (all8 _ hc1) d1 (all8 _ hc2) d2 (all8 _ hc3) e3 (all8 _ hD) hdi hwd ((k9 _ (by decide)).trans ew) ((k9 _ (by decide)).trans es) ((kk _ (by decide) (by decide) (by decide)).trans u1) ((kk _ (by decide) (by decide) (by decide)).trans u2) ((kk _ (by decide) (by decide) (by decide)).trans u6) ((kk _ (by decide) (by decide) (by decide)).trans u4) ((kk _ (by decide) (by decide) (by decide)).trans u5) er hz (ck.mono fun p hp => sb8 p (sb7 p hp)) (cb.mono sb8) cs1 cs2 ((kk _ (by decide) (by decide) (by decide)).trans u3) (hrf.trans (rf_n hok hfm cs1 cs2)) ret
theorem law_m_l {ls : Addr} {md X Y sd nb fm : Int} {al g : Bool} {pl : Int} {dv : Int} {c3 : Option Value} {oc1 oc2 oc3 : Obj} {td : Tok} {D : Addr} {dits : List Value} {k : Nat} {its : List Value} {zs : List Int} (H : Here w h₀ L s.heap m news [] [] p loose mean mg mb (fnScope 34) dp un 40) (V : Vars m ls md X Y sd nb fm al g pl) (hl : h₀.IsList ls its.toArray) (hi : IntsAre its zs) (hsz : its.toArray.size ≤ 63) (hsy : its.length ≤ 63) (hsx : zs.length ≤ 63) (a0 : 0 ≤ md) (a1 : md < 5) (x0 : -3 ≤ X) (x1 : X ≤ 4294967292) (y0 : -3 ≤ Y) (y1 : Y ≤ 4294967292) (s0 : 0 ≤ sd) (n0 : 0 ≤ nb) (n1 : nb < 70000) (f8 : fm < 9) (hg : g = true ↔ sd = 1 ∨ (sd = 0 ∧ fm < 2)) (hpl : pl = if 1 < fm then 1 else (if g then 1 else 3) + (if al then 1 else 0)) (hc1 : (L + 1, oc1) ∈ news) (d1 : oc1.data = .cell (some (.int dv td))) (hc2 : (L + 1 + 1, oc2) ∈ news) (d2 : oc2.data = .cell (some (.ref D))) (hc3 : (L + 1 + 1 + 1, oc3) ∈ news) (e3 : oc3.data = .cell c3) (hD : (D, W.listOf dits.toArray k) ∈ news) (hdi : IntsAre dits (depOf dv pl)) (hfm : 2 ≤ fm) (ret : ∀ m' h' tk', Fr h₀ L h' m' → Q (.ret (.bool true)) { s with heap := h', toks := tk' }) :
    wpAny (model rw_ar0036_02.row.prog w) ((Fa dp un (some []) []).deeper (envOfC nm (fnScope 34) L fa cd)) (execs [fnAt 34 11, fnAt 34 12, fnAt 34 13, fnAt 34 14, fnAt 34 15, fnAt 34 16, fnAt 34 17, fnAt 34 18, fnAt 34 19, fnAt 34 20, fnAt 34 21, fnAt 34 22, fnAt 34 23, fnAt 34 24, fnAt 34 25, fnAt 34 26, fnAt 34 27, fnAt 34 28, fnAt 34 29, fnAt 34 30, fnAt 34 31, fnAt 34 32] (envOfC nm (fnScope 34) L fa cd)) Q (Out w ((Fa dp un (some []) []).deeper (envOfC nm (fnScope 34) L fa cd)) (envOfC nm (fnScope 34) L fa cd) R) s := by
  obtain ⟨tf, ef⟩ := V.form
  obtain ⟨tn, en⟩ := V.number
  have hp14 : 1 ≤ pl ∧ pl ≤ 4 := by rw [hpl]; split <;> cases g <;> cases al <;> decide
  have hlen := depOf_len (dv := dv) (pl := pl)
  have hil := hdi.length
  have hl4 : (depOf dv pl).length ≤ 4 := by omega
  have hl1 : 0 < (depOf dv pl).length := by omega
  have hd4 : dits.length ≤ 4 := by omega
  have hd1 : 0 < dits.length := by omega
  obtain ⟨qz, uz, its', qs', rfl, eqs, hr⟩ := ints_one hdi hl1
  have hp1 : pl = 1 := by rw [hpl, if_pos (by omega)]
  subst hp1
  have hq1 : qs' = [] := by
    have h9 := hlen
    rw [eqs, List.length_cons] at h9
    exact List.length_eq_zero_iff.mp (by omega)
  subst hq1
  cases hr
  have hqz := depOf_bd (dv := dv) (pl := 1) qz (by rw [eqs]; exact .head _)
  refine wpAny_execs_cons (law_s11l H hc2 d2 hD ef en n0 (by omega) hfm (by omega) fun lp ps np es0 h1 tk1 nw1 sb1 hlp hpa hpl9 hel hpg F1 N1 => ?_)
  have H1 := H.next F1 N1 (fun _ h => nomatch h)
  refine wpAny_execs_cons (law_s12 (s := { s with heap := h1, toks := tk1 }) H1 hl hi hsz hsy hsx ((if_neg (by decide)).trans (V.script)) fun cl t6 h2 tk2 cl0 cl1 F2 N2 => ?_)
  have H2 := H1.now F2 N2
  refine wpAny_execs_cons (law_s13l (lp := lp) (s := { s with heap := h2, toks := tk2 }) H2 hl hi hsz hsy hsx ((if_neg (by decide)).trans ((if_neg (by decide)).trans (V.script))) (by walk_at "mine see") fun t7 h3 tk3 F3 N3 => ?_)
  have H3 := H2.now F3 N3
  refine wpAny_execs_cons (law_s14 (s := { s with heap := h3, toks := tk3 }) H3 hl hi hsz hsy hsx ((if_neg (by decide)).trans ((if_neg (by decide)).trans ((if_neg (by decide)).trans (V.script)))) fun lc t5 h4 tk4 lc0 lc1 F4 N4 => ?_)
  have H4 := H3.now F4 N4
  refine wpAny_execs_cons (law_s15 (s := { s with heap := h4, toks := tk4 }) H4 (sb1 _ hc2) d2 (sb1 _ hD) hdi hd4 hd1 hl4 hl1 depOf_bd fun top t8 h5 tk5 p0 p1 F5 N5 => ?_)
  have H5 := H4.now F5 N5
  refine wpAny_execs_cons (law_s16 (form := cl) (number := nb) (top := top) (grey := g) (t1 := t6) (t2 := tn) (t4 := t8) (s := { s with heap := h5, toks := tk5 }) H5 (by walk_at "mine see") ((if_neg (by decide)).trans ((if_neg (by decide)).trans ((if_neg (by decide)).trans ((if_neg (by decide)).trans ((if_neg (by decide)).trans (en)))))) ((if_neg (by decide)).trans ((if_neg (by decide)).trans ((if_neg (by decide)).trans ((if_neg (by decide)).trans ((if_neg (by decide)).trans (V.grey)))))) (by walk_at "mine see") n0 (by omega) p0 p1 fun vk kc h6 tk6 nw6 sb6 ck cs1 F6 N6 => ?_)
  have H6 := H5.next F6 N6 (fun _ h => nomatch h)
  refine wpAny_execs_cons (law_s17 (form := 0) (number := nb) (top := top) (grey := g) (t1 := t7) (t2 := tn) (t4 := t8) (s := { s with heap := h6, toks := tk6 }) H6 (by walk_at "mine see") ((if_neg (by decide)).trans ((if_neg (by decide)).trans ((if_neg (by decide)).trans ((if_neg (by decide)).trans ((if_neg (by decide)).trans ((if_neg (by decide)).trans (en))))))) ((if_neg (by decide)).trans ((if_neg (by decide)).trans ((if_neg (by decide)).trans ((if_neg (by decide)).trans ((if_neg (by decide)).trans ((if_neg (by decide)).trans (V.grey))))))) (by walk_at "mine see") n0 (by omega) p0 p1 fun vb bc h7 tk7 nw7 sb7 cb cs2 F7 N7 => ?_)
  have H7 := H6.next F7 N7 (fun _ h => nomatch h)
  have V7 := V.keep (m' := _) (show ∀ y ∈ (["script", "mode", "wide", "high", "said", "alpha", "number", "form", "grey", "planes"] : List PySem.Str), (fun y : PySem.Str => if y = "back" then some vb else (fun y : PySem.Str => if y = "key" then some vk else (fun y : PySem.Str => if y = "top" then some (Value.int top t8) else (fun y : PySem.Str => if y = "lace" then some (Value.int lc t5) else (fun y : PySem.Str => if y = "ground" then some (Value.int 0 t7) else (fun y : PySem.Str => if y = "clear" then some (Value.int cl t6) else (fun y : PySem.Str => if y = "palette" then some (Value.ref lp) else m y) y) y) y) y) y) y) y = m y by walk_at "mine keep")
  have all : ∀ p ∈ news, p ∈ nw7 := fun p hp => sb7 p (sb6 p (sb1 p hp))
  have u1 : (fun y : PySem.Str => if y = "back" then some vb else (fun y : PySem.Str => if y = "key" then some vk else (fun y : PySem.Str => if y = "top" then some (Value.int top t8) else (fun y : PySem.Str => if y = "lace" then some (Value.int lc t5) else (fun y : PySem.Str => if y = "ground" then some (Value.int 0 t7) else (fun y : PySem.Str => if y = "clear" then some (Value.int cl t6) else (fun y : PySem.Str => if y = "palette" then some (Value.ref lp) else m y) y) y) y) y) y) y) "key" = some vk := by walk_at "mine see"
  have u2 : (fun y : PySem.Str => if y = "back" then some vb else (fun y : PySem.Str => if y = "key" then some vk else (fun y : PySem.Str => if y = "top" then some (Value.int top t8) else (fun y : PySem.Str => if y = "lace" then some (Value.int lc t5) else (fun y : PySem.Str => if y = "ground" then some (Value.int 0 t7) else (fun y : PySem.Str => if y = "clear" then some (Value.int cl t6) else (fun y : PySem.Str => if y = "palette" then some (Value.ref lp) else m y) y) y) y) y) y) y) "back" = some vb := by walk_at "mine see"
  generalize em : (fun y : PySem.Str => if y = "back" then some vb else (fun y : PySem.Str => if y = "key" then some vk else (fun y : PySem.Str => if y = "top" then some (Value.int top t8) else (fun y : PySem.Str => if y = "lace" then some (Value.int lc t5) else (fun y : PySem.Str => if y = "ground" then some (Value.int 0 t7) else (fun y : PySem.Str => if y = "clear" then some (Value.int cl t6) else (fun y : PySem.Str => if y = "palette" then some (Value.ref lp) else m y) y) y) y) y) y) y) = m7 at V7 u1 u2 H7
  have u3 : m7 "palette" = some (Value.ref lp) := by rw [← em]; walk_at "mine see"
  have u4 : m7 "clear" = some (.int cl t6) := by rw [← em]; walk_at "mine see"
  have u5 : m7 "ground" = some (.int 0 t7) := by rw [← em]; walk_at "mine see"
  have u6 : m7 "lace" = some (.int lc t5) := by rw [← em]; walk_at "mine see"
  clear em
  refine law_sz (s := { s with heap := h7, toks := tk7 }) H7 V7 a0 a1 x0 x1 y0 y1 n0 fun vsz v1 v2 wd ok m8 h8 tk8 nw8 hok sb8 hz hwd ew es k8 H8 => ?_
  have V8 := V7.keep (m' := m8) fun y hy => k8 y (by rintro rfl; exact absurd hy (by decide)) (by rintro rfl; exact absurd hy (by decide))
  refine law_rf (cl := cl) (gr := 0) (s := { s with heap := h8, toks := tk8 }) H8 V8 (sb8 _ (all _ hc2)) d2 (sb8 _ (all _ hD)) hdi hd4 hd1 hl4 hl1 depOf_bd ((k8 _ (by decide) (by decide)).trans u1) (ck.mono fun p hp => sb8 p (sb7 p hp)) ⟨t6, (k8 _ (by decide) (by decide)).trans u4⟩ ⟨t7, (k8 _ (by decide) (by decide)).trans u5⟩ fun rf m9 h9 tk9 hrf er k9 H9 => ?_
  have V9 := V8.keep (m' := m9) fun y hy => k9 y (by rintro rfl; exact absurd hy (by decide))
  have kk : ∀ y : PySem.Str, y ≠ "refused" → y ≠ "size" → y ≠ "words" → m9 y = m7 y := fun y b c d => (k9 y b).trans (k8 y c d)
  have all8 : ∀ p ∈ news, p ∈ nw8 := fun p hp => sb8 p (all p hp)
  refine wpAny_execs_cons (law_23 (its := []) (qs := []) (s := { s with heap := h9, toks := tk9 }) H9 (all8 _ hc2) d2 (all8 _ hD) ((kk _ (by decide) (by decide) (by decide)).trans u3) er V9.alpha V9.grey ((kk _ (by decide) (by decide) (by decide)).trans u1) (ck.mono fun p hp => sb8 p (sb7 p hp)) fun rf2 h10 tk10 hrf2 F10 N10 => ?_)
  have H10 := H9.now F10 N10
  have V10 := V9.keep (m' := fun y : PySem.Str => if y = "refused" then some (Value.bool rf2) else m9 y) fun y hy => if_neg (by rintro rfl; exact absurd hy (by decide))
  have hbn : bc = .no := cs2.1.mpr (by decide)
  have hg2 : g = true ↔ sd = 1 := by rw [hg]; constructor <;> intro h <;> omega
  rw [eqs] at hrf
  exact law_24_l (s := { s with heap := h10, toks := tk10 }) H10 V10 x0 x1 y0 y1 s0 hg2 (all8 _ hc1) d1 (all8 _ hc2) d2 (all8 _ hc3) e3 (all8 _ hD) hqz hwd ((if_neg (by decide)).trans ((k9 _ (by decide)).trans ew)) ((if_neg (by decide)).trans ((k9 _ (by decide)).trans es)) ((if_neg (by decide)).trans ((kk _ (by decide) (by decide) (by decide)).trans u1)) ((if_neg (by decide)).trans ((kk _ (by decide) (by decide) (by decide)).trans u2)) ((if_neg (by decide)).trans ((kk _ (by decide) (by decide) (by decide)).trans u6)) ((if_neg (by decide)).trans ((kk _ (by decide) (by decide) (by decide)).trans u4)) ((if_neg (by decide)).trans ((kk _ (by decide) (by decide) (by decide)).trans u5)) (if_pos rfl) hz (ck.mono fun p hp => sb8 p (sb7 p hp)) (cb.mono sb8) cs1 cs2 ((if_neg (by decide)).trans ((kk _ (by decide) (by decide) (by decide)).trans u3)) (sb8 _ (sb7 _ (sb6 _ hlp))) (hpa.mono fun p hp => sb8 p (sb7 p (sb6 p hp))) hpl9 hel hbn (rf_l hok hpg rfl cs1 hrf hrf2) ret
end
end Mine
end
section
namespace Mine
theorem fnStmts34 : fnStmts 34 = [fnAt 34 0, fnAt 34 1, fnAt 34 2, fnAt 34 3, fnAt 34 4, fnAt 34 5, fnAt 34 6, fnAt 34 7, fnAt 34 8, fnAt 34 9, fnAt 34 10, fnAt 34 11, fnAt 34 12, fnAt 34 13, fnAt 34 14, fnAt 34 15, fnAt 34 16, fnAt 34 17, fnAt 34 18, fnAt 34 19, fnAt 34 20, fnAt 34 21, fnAt 34 22, fnAt 34 23, fnAt 34 24, fnAt 34 25, fnAt 34 26, fnAt 34 27, fnAt 34 28, fnAt 34 29, fnAt 34 30, fnAt 34 31, fnAt 34 32] := by rfl
section
variable {w : World} {p : Program} {loose : List Str} {mean : ExcName → Option Value} {mg mb : Str → Option Value} {dp un : Nat} {nm : Str} {fa : Addr} {cd : Value} {h₀ : Heap} {L : Addr} {m : Str → Option Value} {news : Led} {s : Shared} {Q : Flow → Shared → Prop} {R : Result → Shared → Prop} {rest : List Stmt}
theorem law_body {ls : Addr} {its : List Value} {zs : List Int} {o1 o2 o3 : Obj} {c1 c2 c3 : Option Value} (H : Here w h₀ L s.heap m [(L + 1 + 1 + 1, o3), (L + 1 + 1, o2), (L + 1, o1)] [] [] p loose mean mg mb (fnScope 34) dp un 40) (hl : h₀.IsList ls its.toArray) (hi : IntsAre its zs) (hsz : its.toArray.size ≤ 63) (hsy : its.length ≤ 63) (hsx : zs.length ≤ 63) (v0 : m "script" = some (.ref ls))
    (e1 : o1.data = .cell c1) (e2 : o2.data = .cell c2) (e3 : o3.data = .cell c3) (ret : ∀ m' h' tk', Fr h₀ L h' m' → Q (.ret (.bool true)) { s with heap := h', toks := tk' }) :
    wpAny (model rw_ar0036_02.row.prog w) ((Fa dp un (some []) []).deeper (envOfC nm (fnScope 34) L fa cd)) (execs (fnStmts 34) (envOfC nm (fnScope 34) L fa cd)) Q (Out w ((Fa dp un (some []) []).deeper (envOfC nm (fnScope 34) L fa cd)) (envOfC nm (fnScope 34) L fa cd) R) s := by
  rw [fnStmts34]
  refine law_1 H hl hi hsz hsy hsx v0 e1 e2 e3 fun md X Y sd nb fm al g pl dv td D dits k oc1 oc2 m' h' tk' nw a0 a1 x0 x1 y0 y1 s0 _ n0 n1 _ f8 hg hpl V hdi hc3 hc1 d1 hc2 d2 hD H' => ?_
  by_cases hfm : fm < 2
  · exact law_m_n (s := { s with heap := h', toks := tk' }) H' V hl hi hsz hsy hsx a0 a1 x0 x1 y0 y1 s0 n0 n1 f8 hg hpl hc1 d1 hc2 d2 hc3 e3 hD hdi hfm ret
  · exact law_m_l (s := { s with heap := h', toks := tk' }) H' V hl hi hsz hsy hsx a0 a1 x0 x1 y0 y1 s0 n0 n1 f8 hg hpl hc1 d1 hc2 d2 hc3 e3 hD hdi (by omega) ret
end
end Mine
end
section
namespace Mine
theorem unghost {tabs : List (Addr × Addr)} {h₁ h : Heap} {m : Str → Option Value} (hT : TabsAt tabs h₁) (F : Fr (ghostOf h₁ tabs) h₁.objs.size h m) (hN : ∀ q ∈ tabs, h.get? q.2 = some (tabObj #[])) : Fr h₁ h₁.objs.size h m := by
  refine ⟨F.ns, fun b o e => ?_, Nat.le_refl _⟩
  by_cases hb : b ∈ tabs.map (·.2)
  · obtain ⟨q, hq, rfl⟩ := List.mem_map.mp hb
    have := (hT q hq).2
    rw [e] at this
    cases this
    exact hN q hq
  · exact F.keep b o (ghost_ne e hb)
theorem in_unghost {tabs : List (Addr × Addr)} {h₁ : Heap} {K : Frag} (X : K.In (ghostOf h₁ tabs)) : K.In h₁ := fun a o e => of_hideAll _ (X a o e)
theorem news_unghost {tabs : List (Addr × Addr)} {h₁ h : Heap} {o1 o2 o3 : Obj} {r : Led} (N : News (ghostOf h₁ tabs) h₁.objs.size h ((h₁.objs.size + 1 + 1 + 1, o3) :: (h₁.objs.size + 1 + 1, o2) :: (h₁.objs.size + 1, o1) :: r)) :
    News h₁ h₁.objs.size h [(h₁.objs.size + 1 + 1 + 1, o3), (h₁.objs.size + 1 + 1, o2), (h₁.objs.size + 1, o1)] := fun p hp => by
  simp only [List.mem_cons, List.not_mem_nil, or_false] at hp
  have hm : p ∈ (h₁.objs.size + 1 + 1 + 1, o3) :: (h₁.objs.size + 1 + 1, o2) :: (h₁.objs.size + 1, o1) :: r := by
    simp only [List.mem_cons]
    rcases hp with h | h | h
    · exact .inl h
    · exact .inr (.inl h)
    · exact .inr (.inr (.inl h))
  refine ⟨(N p hm).1, (N p hm).2.1, Heap.get?_none_of_le ?_⟩
  rcases hp with h | h | h <;> (rw [h]; show h₁.objs.size ≤ (_ : Nat); omega)
theorem grown_all {tabs : List (Addr × Addr)} {h₁ h : Heap} (hT : TabsAt tabs h₁) (k : ∀ b o, h₁.get? b = some o → h.get? b = some o) : GrownAll tabs h := by
  induction tabs with
  | nil => trivial
  | cons q r ih => exact ⟨⟨_, k _ _ (hT q (.head _)).2⟩, ih fun q hq => hT q (.tail _ hq)⟩
end Mine
end
set_option maxRecDepth 100000 in
theorem PySem.Challenge.cw_ar0036_02_holds : PySem.Challenge.rw_ar0036_02.Holds := by
  refine Mine.hd ?_
  refine Mine.fst (P := Mine.w) rfl ?_
  w_on
  w_strict (
   k_go0
   (rename Fr _ _ _ _ => F9)
   (rename News _ _ _ _ => N9)
   (rename Top (Mine.w.view_1) _ _ _ _ _ => T9)
   (rename Frag.In _ _ => X9)
   (rename TabsAt _ _ => hT9)
   (rename IntsAre _ _ => i9)
   (rename ¬ _ < _ => c9)
   have z9 := i9.length
   have z8 : _ ≤ 63 := Nat.le_of_not_lt (fun h => c9 (by exact_mod_cast h))
   have FF := Mine.unghost hT9 F9 (fun q hq => by
     simp only [List.mem_cons, List.not_mem_nil, or_false] at hq
     rcases hq with h | h <;> subst h
     · exact (N9 _ (.tail _ (.tail _ (.tail _ (.head _))))).1
     · exact (N9 _ (.tail _ (.tail _ (.tail _ (.tail _ (.head _)))))).1)
   refine wpAny_mono (Mine.law_body (dp := 1 + claimMargin) (un := 4) (Q := fun f s' => f = .ret (.bool true) ∧ ∃ m' h' tk', s' = { heap := h', gens := _, drawn := _, toks := tk', os := _ } ∧ Fr _ _ h' m') (R := fun _ _ => False) ⟨FF, Mine.in_unghost X9, Mine.news_unghost N9, T9, trivial, (fun _ h => nomatch h), rfl, by decide +kernel, by decide +kernel⟩ (by assumption) i9 (by rw [List.size_toArray]; omega) (by omega) (by omega) rfl (by assumption) (by assumption) (by assumption) (fun m' h' tk' F => ⟨rfl, m', h', tk', rfl, F⟩)) ?y1 ?y2
   rotate_left 1
   exact fun e s9 h => wpAny_mono h (fun _ _ h => h.elim) (fun _ _ h => h.elim)
   rintro f s9 ⟨rfl, m9, h9, tk9, rfl, G9⟩
   have F9 := ghost_fr hT9 G9
   refine ⟨?_, Mine.grown_all hT9 G9.keep⟩
   k_end
   wrow_close)
